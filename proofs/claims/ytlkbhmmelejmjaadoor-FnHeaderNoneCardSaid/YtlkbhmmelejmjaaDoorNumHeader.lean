/- FnHeaderNone: a value of one line has no header; the law's walk. -/
import Derived.Test.YtlkbhmmelejmjaaDoorNumInteger
namespace Go.Proofs.YtlkbhmmelejmjaaDoor.NumHeader
open Go.RowKit Go.Proofs.YtlkbhmmelejmjaaDoorW.PrintWords Go.Proofs.YtlkbhmmelejmjaaDoor.NumKnown Go.Proofs.YtlkbhmmelejmjaaDoor.NumPure Go.Proofs.YtlkbhmmelejmjaaDoor.NumParse Go.Proofs.YtlkbhmmelejmjaaDoor.NumTok Go.Proofs.YtlkbhmmelejmjaaDoor.NumImpl Go.Proofs.YtlkbhmmelejmjaaDoor.NumTold Go.Proofs.YtlkbhmmelejmjaaDoor.NumDec Go.Proofs.YtlkbhmmelejmjaaDoor.NumInteger
set_option linter.unusedVariables false
set_option linter.unusedSimpArgs false

theorem has_l0 (v : ByteArray) (hs : v.size ≤ 2305843009213693952) : ∀ (d i : Nat), v.size - i ≤ d → i ≤ v.size → ∃ r, spec_Has.l0 (4 * d + 1) v ⟨#[10, 13]⟩ (i : Int) = some r ∧ (r = false → ∀ j, i ≤ j → (h : j < v.size) → v[j] ≠ 10 ∧ v[j] ≠ 13)
  | 0, i, h1, h2 => by
    obtain rfl : i = v.size := by omega
    refine ⟨false, ?_, fun _ j hj h => absurd h (by omega)⟩
    simp only [spec_Has.l0]
    rw [if_neg (by omega)]
  | d + 1, i, h1, h2 => by
    by_cases hlt : i < v.size
    · obtain ⟨r, hr, hj⟩ := has_l0 v hs d (i + 1) (by omega) (by omega)
      have hb0 : bt v (i : Int) = ((v[i]).toNat : Int) := by rw [← bt_at v (i : Int) hlt]; rfl
      have hw1 : wrap64 ((0 : Int) + 1) = 1 := by unfold wrap64; omega
      have hw2 : wrap64 ((1 : Int) + 1) = 2 := by unfold wrap64; omega
      have hwi : wrap64 ((i : Int) + 1) = ((i + 1 : Nat) : Int) := by unfold wrap64; omega
      have hp0 : bt ⟨#[10, 13]⟩ 0 = 10 := rfl
      have hp1 : bt ⟨#[10, 13]⟩ 1 = 13 := rfl
      have hz : ((⟨#[10, 13]⟩ : ByteArray).size : Int) = 2 := rfl
      by_cases e0 : bt v (i : Int) = 10
      · refine ⟨true, ?_, fun e => by cases e⟩
        show spec_Has.l0 (4 * d + 2 + 1 + 1 + 1) v ⟨#[10, 13]⟩ (i : Int) = some true
        simp only [spec_Has.l0, spec_Has.l1]
        rw [if_pos (by omega), hz, if_pos (by omega), if_pos (by omega), if_pos (by omega), if_pos (by omega), if_pos (by rw [hp0]; exact e0)]
      · by_cases e1 : bt v (i : Int) = 13
        · refine ⟨true, ?_, fun e => by cases e⟩
          show spec_Has.l0 (4 * d + 1 + 1 + 1 + 1 + 1) v ⟨#[10, 13]⟩ (i : Int) = some true
          simp only [spec_Has.l0, spec_Has.l1]
          rw [if_pos (by omega), hz, if_pos (by omega), if_pos (by omega), if_pos (by omega), if_pos (by omega), if_neg (by rw [hp0]; exact e0), hw1, if_pos (by omega), if_pos (by omega), if_pos (by omega), if_pos (by omega), if_pos (by rw [hp1]; exact e1)]
        · refine ⟨r, ?_, fun hf j hij h => ?_⟩
          · show spec_Has.l0 (4 * d + 1 + 1 + 1 + 1 + 1) v ⟨#[10, 13]⟩ (i : Int) = some r
            have : spec_Has.l0 (4 * d + 1 + 1 + 1 + 1 + 1) v ⟨#[10, 13]⟩ (i : Int) = spec_Has.l0 (4 * d + 1) v ⟨#[10, 13]⟩ ((i + 1 : Nat) : Int) := by
              conv => lhs; unfold spec_Has.l0
              rw [if_pos (by omega)]
              conv => lhs; unfold spec_Has.l1
              rw [hz, if_pos (by omega), if_pos (by omega), if_pos (by omega), if_pos (by omega), if_neg (by rw [hp0]; exact e0), hw1]
              conv => lhs; unfold spec_Has.l1
              rw [hz, if_pos (by omega), if_pos (by omega), if_pos (by omega), if_pos (by omega), if_neg (by rw [hp1]; exact e1), hw2]
              conv => lhs; unfold spec_Has.l1
              rw [hz, if_neg (by omega), hwi]
            rw [this]; exact hr
          · by_cases hji : j = i
            · subst hji
              rw [hb0] at e0 e1
              exact ⟨fun e => e0 (by rw [e]; rfl), fun e => e1 (by rw [e]; rfl)⟩
            · exact hj hf j (by omega) h
    · refine ⟨false, ?_, fun _ j hj h => absurd h (by omega)⟩
      show spec_Has.l0 (4 * d + 4 + 1) v ⟨#[10, 13]⟩ (i : Int) = some false
      simp only [spec_Has.l0]
      rw [if_neg (by omega)]

theorem has_any (v : ByteArray) (hs : v.size ≤ 2305843009213693952) : ∃ r : Bool, (∀ w, Calls Tryd.prog 12 #[.string v, .string ⟨#[10, 13]⟩] w (Bo r w)) ∧ (r = false → (10 : UInt8) ∉ v.data.toList ∧ (13 : UInt8) ∉ v.data.toList) := by
  obtain ⟨r, hr, hj⟩ := has_l0 v hs v.size 0 (by omega) (by omega)
  refine ⟨r, fun w => (spec_Has.calls _ v ⟨#[10, 13]⟩ r w hr).mono fun e w' hh => ⟨hh.1, hh.2.below⟩, fun hf => ⟨fun hm => ?_, fun hm => ?_⟩⟩
  · obtain ⟨j, hj1, hj2⟩ := List.mem_iff_getElem.1 hm
    exact (hj hf j (by omega) (by rw [Lib.size_eq]; exact hj1)).1 hj2
  · obtain ⟨j, hj1, hj2⟩ := List.mem_iff_getElem.1 hm
    exact (hj hf j (by omega) (by rw [Lib.size_eq]; exact hj1)).2 hj2

theorem cnt_none {v : ByteArray} {b : UInt8} (h : b ∉ v.data.toList) : cnt b v = 0 := List.count_eq_zero.2 h
theorem one_none (v : ByteArray) (b : UInt8) (h : b ∉ v.data.toList) (hs : v.size ≤ 2305843009213693952) (w : World) : Calls Tryd.prog 29 #[.string v, .string ⟨#[b]⟩] w (Cnt 0 w) := by
  have := count_one v b hs w
  rw [cnt_none h] at this
  exact this

set_option maxRecDepth 100000 in
theorem detect_of (v : ByteArray) (n m : Int) (r : ByteArray) (C1 : ∀ w, Calls Tryd.prog 29 #[.string v, .string ⟨#[10]⟩] w (Cnt n w)) (C2 : ∀ w, Calls Tryd.prog 29 #[.string v, .string ⟨#[13]⟩] w (Cnt 0 w)) (C3 : ∀ w, Calls Tryd.prog 29 #[.string v, .string ⟨#[13, 10]⟩] w (Cnt 0 w)) (hn : (n = 0 ∧ r = ⟨#[13, 10]⟩) ∨ (0 < n ∧ r = ⟨#[10]⟩)) (w : World) : Calls Tryd.prog 25 #[.string v] w (Str r w) := by
  have A1 := Aside0.mk C1
  have A2 := Aside0.mk C2
  have A3 := Aside0.mk C3
  clear C1 C2 C3
  rcases hn with ⟨rfl, rfl⟩ | ⟨hn, rfl⟩
  · go_enter Tryd.func25, Tryd.ntmps25
    go_wp2_with fail
    refine (A1.out _).mono ?_
    rintro e w1 ⟨rfl, rfl⟩
    go_wp2_with fail
    refine (A2.out _).mono ?_
    rintro e w1 ⟨rfl, rfl⟩
    go_wp2_with fail
    refine (A3.out _).mono ?_
    rintro e w1 ⟨rfl, rfl⟩
    go_wp2_with fail
    go_ret
    exact ⟨rfl, Below.refl _ _⟩
  · have q1 : (n == 0) = false := beq_eq_false_iff_ne.mpr (by omega)
    have q2 : ¬ (n < 0) := by omega
    go_enter Tryd.func25, Tryd.ntmps25
    go_wp2_with fail
    refine (A1.out _).mono ?_
    rintro e w1 ⟨rfl, rfl⟩
    go_wp2_with fail
    refine (A2.out _).mono ?_
    rintro e w1 ⟨rfl, rfl⟩
    go_wp2_with fail
    refine (A3.out _).mono ?_
    rintro e w1 ⟨rfl, rfl⟩
    go_wp2_with fail
    go_ret
    exact ⟨rfl, Below.refl _ _⟩

theorem contains_none (v : ByteArray) (h : (13 : UInt8) ∉ v.data.toList) (hs : v.size ≤ 2305843009213693952) (w : World) : Calls Tryd.prog 26 #[.string v, .string ⟨#[13, 10]⟩] w (Bo false w) := by
  refine (token_zzContains.calls (v.size + 2) v ⟨#[13, 10]⟩ false w ?_).mono fun e w' hh => ⟨hh.1, hh.2.below⟩
  unfold token_zzContains.f
  rw [idx_none_f (b := 13) rfl h hs (by show 2 ≤ _; omega) (by show 0 < 2; omega) (v.size + 2) (by omega)]
  rfl

set_option maxRecDepth 100000 in
theorem lit_none (v : ByteArray) (h0 : (10 : UInt8) ∉ v.data.toList) (h1 : (13 : UInt8) ∉ v.data.toList) (hs : v.size ≤ 2305843009213693952) (w : World) : Calls Tryd.prog 20 #[.string v] w (Str ⟨#[]⟩ w) := by
  have A1 := Aside0.mk (detect_of v 0 0 ⟨#[13, 10]⟩ (one_none v 10 h0 hs) (one_none v 13 h1 hs) (count_two v 13 10 h1 hs) (.inl ⟨rfl, rfl⟩))
  have A2 := Aside0.mk (contains_none v h1 hs)
  clear h0 h1
  go_enter Tryd.func20, Tryd.ntmps20
  go_wp2_with fail
  refine (A1.out _).mono ?_
  rintro e w1 ⟨rfl, hb1⟩
  have B1 := Aside0.mk hb1
  clear hb1
  go_wp2_with fail
  refine (A2.out _).mono ?_
  rintro e w2 ⟨rfl, hb2⟩
  have B2 := Aside0.mk (B1.out.trans (hb2.mono B1.out.size))
  clear hb2
  go_wp2_with fail
  go_ret
  exact ⟨rfl, B2.out⟩

def abab : ByteArray := ⟨#[97, 10, 98, 10]⟩
theorem abab_two (w : World) : Calls Tryd.prog 29 #[.string ⟨#[97, 10, 98, 10]⟩, .string ⟨#[10]⟩] w (Cnt 2 w) := count_one ⟨#[97, 10, 98, 10]⟩ 10 (by show 4 ≤ _; omega) w
theorem abab_det (w : World) : Calls Tryd.prog 25 #[.string ⟨#[97, 10, 98, 10]⟩] w (Str ⟨#[10]⟩ w) :=
  detect_of ⟨#[97, 10, 98, 10]⟩ 2 0 ⟨#[10]⟩ abab_two (one_none _ 13 (by decide) (by show 4 ≤ _; omega)) (count_two _ 13 10 (by decide) (by show 4 ≤ _; omega)) (.inr ⟨by omega, rfl⟩) w
theorem abab_has (w : World) : Calls Tryd.prog 26 #[.string ⟨#[97, 10, 98, 10]⟩, .string ⟨#[10]⟩] w (Bo true w) :=
  (token_zzContains.calls 10 ⟨#[97, 10, 98, 10]⟩ ⟨#[10]⟩ true w (by kernel_rfl)).mono fun e w' hh => ⟨hh.1, hh.2.below⟩
theorem abab_suf (w : World) : Calls Tryd.prog 27 #[.string ⟨#[97, 10, 98, 10]⟩, .string ⟨#[10]⟩] w (Bo true w) :=
  (strings_HasSuffix.calls ⟨#[97, 10, 98, 10]⟩ ⟨#[10]⟩ true w (by kernel_rfl)).mono fun e w' hh => ⟨hh.1, hh.2.below⟩
theorem ten_ten : (⟨#[10]⟩ ++ ⟨#[10]⟩ : ByteArray) = ⟨#[10, 10]⟩ := ba_append [10] [10]
theorem abab_suf2 (w : World) : Calls Tryd.prog 27 #[.string ⟨#[97, 10, 98, 10]⟩, .string (⟨#[10]⟩ ++ ⟨#[10]⟩)] w (Bo false w) :=
  ten_ten ▸ (strings_HasSuffix.calls ⟨#[97, 10, 98, 10]⟩ ⟨#[10, 10]⟩ false w (by kernel_rfl)).mono fun e w' hh => ⟨hh.1, hh.2.below⟩

set_option maxRecDepth 100000 in
theorem lit_abab (w : World) : Calls Tryd.prog 20 #[.string ⟨#[97, 10, 98, 10]⟩] w (Str ⟨#[124]⟩ w) := by
  go_enter Tryd.func20, Tryd.ntmps20
  go_wp2_with fail
  refine (abab_det _).mono ?_
  rintro e w1 ⟨rfl, hb1⟩
  have B1 := Aside0.mk hb1
  clear hb1
  go_wp2_with fail
  refine (abab_has _).mono ?_
  rintro e w2 ⟨rfl, hb2⟩
  have B2 := Aside0.mk (B1.out.trans (hb2.mono B1.out.size))
  clear hb2
  go_wp2_with fail
  refine (abab_suf2 _).mono ?_
  rintro e w3 ⟨rfl, hb3⟩
  have B3 := Aside0.mk (B2.out.trans (hb3.mono B2.out.size))
  clear hb3
  go_wp2_with fail
  refine (abab_suf _).mono ?_
  rintro e w4 ⟨rfl, hb4⟩
  have B4 := Aside0.mk (B3.out.trans (hb4.mono B3.out.size))
  clear hb4
  go_wp2_with fail
  go_ret
  exact ⟨rfl, B4.out⟩

set_option maxRecDepth 100000 in
theorem head_of (v r : ByteArray) (C : ∀ w, Calls Tryd.prog 20 #[.string v] w (Str r w)) (w : World) : Calls Tryd.prog 13 #[.string v] w (Str r w) := by
  have A := Aside0.mk C
  clear C
  go_enter Tryd.func13, Tryd.ntmps13
  go_wp2_with fail
  refine (A.out _).mono ?_
  rintro e w1 ⟨rfl, hb1⟩
  have B1 := Aside0.mk hb1
  clear hb1
  go_wp2_with fail
  go_ret
  exact ⟨rfl, B1.out⟩

theorem twelve (w : World) : Calls Tryd.prog 7 #[.string ⟨#[49, 50]⟩] w (NumD ⟨#[100, 101, 99, 105, 109, 97, 108]⟩ ⟨#[49, 50]⟩ 2 0 12 0 w) := pos_num 12 (by omega) 12 rfl w

attribute [local go_sem] run_store_float

set_option maxHeartbeats 2000000 in
set_option maxRecDepth 100000 in
theorem lives (w : World) : Calls Tryd.prog 14 #[] w (Bo true w) := by
  have CT := Aside0.mk (told_10 ⟨#[49, 50]⟩ 12)
  unfold wantV at CT
  have CH := Aside0.mk (head_of ⟨#[97, 10, 98, 10]⟩ ⟨#[124]⟩ lit_abab)
  go_enter Tryd.func14, Tryd.ntmps14
  go_wp2_with fail
  refine (twelve _).mono ?_
  rintro e w1 ⟨rfl, hb1⟩
  have B1 := Aside0.mk hb1
  clear hb1
  go_wp2_with fail
  refine (CT.out _).mono ?_
  rintro e w2 ⟨rfl, hb2⟩
  have B2 := Aside0.mk (B1.out.trans (hb2.mono B1.out.size))
  clear hb2
  go_wp2_with fail
  refine (CH.out _).mono ?_
  rintro e w3 ⟨rfl, hb3⟩
  have B3 := Aside0.mk (B2.out.trans (hb3.mono B2.out.size))
  clear hb3
  go_wp2_with fail
  go_ret
  exact ⟨rfl, B3.out⟩

set_option maxHeartbeats 2000000 in
set_option maxRecDepth 100000 in
theorem law_any (v : ByteArray) (w : World) : Calls Tryd.prog 6 #[.string v] w (Bo true w) := by
  by_cases hs : (v.size : Int) > 2147483647
  · go_enter Tryd.func6, Tryd.ntmps6
    go_wp2_with fail
    go_ret
    exact ⟨rfl, Below.refl _ _⟩
  · obtain ⟨r, hC, hr⟩ := has_any v (by omega)
    have C := Aside0.mk hC
    clear hC
    cases r with
    | true =>
      clear hr
      go_enter Tryd.func6, Tryd.ntmps6
      go_wp2_with fail
      refine (C.out _).mono ?_
      rintro e w1 ⟨rfl, hb1⟩
      have B1 := Aside0.mk hb1
      clear hb1
      go_wp2_with fail
      refine (lives _).mono ?_
      rintro e w2 ⟨rfl, hb2⟩
      have B2 := Aside0.mk (B1.out.trans (hb2.mono B1.out.size))
      clear hb2
      go_wp2_with fail
      go_ret
      exact ⟨rfl, B2.out⟩
    | false =>
      have CL := Aside0.mk (head_of v ⟨#[]⟩ (lit_none v (hr rfl).1 (hr rfl).2 (by omega)))
      clear hr
      go_enter Tryd.func6, Tryd.ntmps6
      go_wp2_with fail
      refine (C.out _).mono ?_
      rintro e w1 ⟨rfl, hb1⟩
      have B1 := Aside0.mk hb1
      clear hb1
      go_wp2_with fail
      refine (CL.out _).mono ?_
      rintro e w2 ⟨rfl, hb2⟩
      have B2 := Aside0.mk (B1.out.trans (hb2.mono B1.out.size))
      clear hb2
      go_wp2_with fail
      refine (lives _).mono ?_
      rintro e w3 ⟨rfl, hb3⟩
      have B3 := Aside0.mk (B2.out.trans (hb3.mono B2.out.size))
      clear hb3
      go_wp2_with fail
      go_ret
      exact ⟨rfl, B3.out⟩
end Go.Proofs.YtlkbhmmelejmjaaDoor.NumHeader
