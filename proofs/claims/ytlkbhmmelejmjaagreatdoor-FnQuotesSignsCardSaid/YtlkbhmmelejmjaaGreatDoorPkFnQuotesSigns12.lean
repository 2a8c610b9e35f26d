/- Parts of the proof of FnQuotesSigns, one behind the other: QKnow, QSigns, FltLaid, FltLaid2. Each part says ahead of itself what it proves. -/
import Derived.Test.YtlkbhmmelejmjaaGreatDoorPkFnQuotesSigns1
import Derived.Test.YtlkbhmmelejmjaaGreatDoorPkFnQuotesSigns11
import Derived.Test.YtlkbhmmelejmjaaGreatDoorPkFnQuotesSigns8
import Derived.Lib.LaidU8
import Derived.Stop.LaidErr
import Derived.Test.YtlkbhmmelejmjaaGreatDoorPkFnQuotesSigns9

/- Known and nbKnown: what they tell of a text, as far as the laws of quotes ask (printed by wip/tools/qknow.py). -/
namespace Go.Proofs.YtlkbhmmelejmjaaGreatDoor.QKnow
open Go.RowKit Go.Proofs.YtlkbhmmelejmjaaGreatDoorW.PrintWords
set_option linter.unusedVariables false
set_option linter.unusedSimpArgs false


def SomeB (w : World) (e : Ending) (w' : World) : Prop := w = w' ∧ ∃ b, e = .returned (.bool b)
theorem digit_any (c : Int) (w : World) : Calls Tryz.prog 117 #[.int .u8 c] w (SomeB w) := by
  go_enter Tryz.func117, Tryz.ntmps117
  by_cases h1 : 48 ≤ c
  · by_cases h2 : c ≤ 57
    · go_wp2
      go_ret
      exact ⟨rfl, _, rfl⟩
    · go_wp2
      go_ret
      exact ⟨rfl, _, rfl⟩
  · go_wp2
    go_ret
    exact ⟨rfl, _, rfl⟩

def DigP (s : ByteArray) (lo : Int) (w : World) (e : Ending) (w' : World) : Prop := w = w' ∧ ∃ b, e = .returned (.bool b) ∧ (b = true → lo ≤ s.size)
set_option maxRecDepth 100000 in
theorem digits_any (s : ByteArray) (hs : s.size ≤ 140737488351232) (lo hi : Int) (w : World) : Calls Tryz.prog 98 #[.string s, .int .i64 lo, .int .i64 hi] w (DigP s lo w) := by
  have CD := digit_any
  go_enter Tryz.func98, Tryz.ntmps98
  go_wp2_with fail
  go_loop [7] (fun v => ∃ i : Nat, i ≤ s.size ∧ v = .int .i64 i) (fun v => s.size - (intOf v).toNat)
  case atStart => exact ⟨0, Nat.zero_le _, rfl⟩
  case round =>
    obtain ⟨i, hi, rfl⟩ := hrel
    by_cases hlt : i < s.size
    · go_wp2_with fail
      refine (CD _ _).mono ?_
      rintro e w' ⟨rfl, b, rfl⟩
      cases b
      · go_wp2_with fail
        go_ret
        exact ⟨rfl, false, rfl, fun h => by cases h⟩
      · go_wp2_with fail
        go_round
        case rel => exact ⟨i + 1, by omega, by go_num⟩
        case measure => simp [intOf]; omega
    · obtain rfl : i = s.size := by omega
      by_cases hlo : lo ≤ (s.size : Int)
      · go_wp2_with fail
        go_ret
        exact ⟨rfl, _, rfl, fun _ => hlo⟩
      · go_wp2_with fail
        go_ret
        exact ⟨rfl, _, rfl, fun h => by revert h; simp [hlo]⟩

theorem first_any (T : ByteArray) : ∃ c : Int, ∀ h, ((T[0]'h).toNat : Int) = c := by
  by_cases h : 0 < T.size
  · exact ⟨((T[0]'h).toNat : Int), fun _ => rfl⟩
  · exact ⟨0, fun h' => absurd h' h⟩
def NumK (w : World) (e : Ending) (w' : World) : Prop := w = w' ∧ ∃ n : Int, e = .returned (.int .i64 n) ∧ (n = 0 ∨ n = 3 ∨ n = 4)

set_option maxHeartbeats 8000000 in
set_option maxRecDepth 100000 in
theorem number_any (s : ByteArray) (hs : s.size ≤ 140737488351232) (w : World) : Calls Tryz.prog 78 #[.string s] w (NumK w) := by
  by_cases h0 : s.size = 0
  · have hemp : s.toList.isEmpty = true := by
      rw [Lib.toList_data]
      have := Lib.size_eq s
      rw [h0] at this
      rw [List.isEmpty_iff]
      exact List.length_eq_zero_iff.1 this.symm
    obtain ⟨T, hT⟩ : ∃ T, T = s := ⟨_, rfl⟩
    have hts : T.size ≤ 140737488351232 := by rw [hT]; exact hs
    rw [← hT] at hemp ⊢
    clear hT h0 hs
    go_enter Tryz.func78, Tryz.ntmps78
    go_wp2_with fail
    go_loop [3] (fun v => ∃ p : Nat, p ≤ T.size ∧ v = .int .i64 p) (fun v => T.size - (intOf v).toNat)
    case atStart => exact ⟨0, Nat.zero_le _, rfl⟩
    case round =>
      obtain ⟨p, hp, rfl⟩ := hrel
      have hwz : (T.extract 0 p).size = p := by rw [ByteArray.size_extract]; omega
      have key : ∀ (hc : p = T.size ∨ (p < T.size ∧ ∀ h, ((T[p]'h).toNat : Int) = 46)), True := fun _ => trivial
      by_cases hgo : p < T.size ∧ ∃ h, ((T[p]'h).toNat : Int) ≠ 46
      · obtain ⟨hlt, hh, hne⟩ := hgo
        have q46 : ∀ h, (((T[p]'h).toNat : Int) != 46) = true := fun h => bne_iff_ne.mpr hne
        have d1 : decide ((p : Int) < (T.size : Int)) = true := decide_eq_true (by omega)
        clear hwz hne
        go_wp2_with fail
        go_round
        case rel => exact ⟨p + 1, by omega, by go_num⟩
        case measure => simp [intOf]; omega
      · have hst : (p = T.size ∧ decide ((p : Int) < (T.size : Int)) = false) ∨ (p < T.size ∧ decide ((p : Int) < (T.size : Int)) = true ∧ ∀ h, (((T[p]'h).toNat : Int) != 46) = false) := by
          by_cases hlt : p < T.size
          · refine .inr ⟨hlt, decide_eq_true (by omega), fun h => ?_⟩
            rw [bne_eq_false_iff_eq]
            exact Decidable.byContradiction fun hn => hgo ⟨hlt, h, hn⟩
          · exact .inl ⟨by omega, decide_eq_false (by omega)⟩
        have CW := digits_any (T.extract 0 p) (by omega) 1 18
        unfold DigP at CW
        rw [hwz] at CW
        have CW := Aside0.mk CW
        clear hgo
        rcases hst with ⟨hpe, d1⟩ | ⟨hlt, d1, q46⟩
        · subst hpe
          have CT := Aside0.mk (digits_any T hts 1 18)
          unfold DigP at CT
          clear hwz CW d1
          go_wp2_with fail
          refine (CT.out _).mono ?_
          rintro e w' ⟨rfl, b, rfl, hb⟩
          cases b
          case false =>
            clear hb
            go_wp2_with fail
            go_ret
            exact ⟨rfl, 0, rfl, .inl rfl⟩
          have hp1 : 1 ≤ T.size := by have := hb rfl; omega
          clear hb
          have hz0 : 0 < T.size := by omega
          obtain ⟨c0, hc0⟩ : ∃ c : Int, ∀ h, ((T[0]'h).toNat : Int) = c := first_any T
          by_cases h48 : c0 = 48
          · have q48 : (c0 == 48) = true := beq_iff_eq.mpr h48
            clear h48
            by_cases h1p : 1 < T.size
            · have d3 : decide ((1 : Int) < (T.size : Int)) = true := decide_eq_true (by omega)
              go_wp2_with fail
              go_ret
              exact ⟨rfl, _, rfl, by omega⟩
            · have d3 : decide ((1 : Int) < (T.size : Int)) = false := decide_eq_false (by omega)
              go_wp2_with fail
              go_ret
              exact ⟨rfl, _, rfl, by omega⟩
          · have q48 : (c0 == 48) = false := beq_eq_false_iff_ne.mpr h48
            clear h48
            go_wp2_with fail
            go_ret
            exact ⟨rfl, _, rfl, by omega⟩
        · have qpe : ((p : Int) == (T.size : Int)) = false := beq_eq_false_iff_ne.mpr (by omega)
          have hxz : (T.extract (p + 1) T.size).size ≤ 140737488351232 := by rw [ByteArray.size_extract]; omega
          have CV := Aside0.mk (digits_any (T.extract (p + 1) T.size) hxz 1 6)
          unfold DigP at CV
          have HWZ := Aside0.mk hwz
          clear hwz hxz
          go_wp2_with fail
          refine (CW.out _).mono ?_
          rintro e w' ⟨rfl, b, rfl, hb⟩
          cases b
          case false =>
            clear hb
            go_wp2_with fail
            go_ret
            exact ⟨rfl, 0, rfl, .inl rfl⟩
          have hp1 : 1 ≤ p := by have := hb rfl; omega
          clear hb
          have hz0 : 0 < (T.extract 0 p).size := by rw [HWZ.out]; omega
          have hzz : ((T.extract 0 p).size : Int) = (p : Int) := by rw [HWZ.out]
          obtain ⟨c0, hc0⟩ : ∃ c : Int, ∀ h, (((T.extract 0 p)[0]'h).toNat : Int) = c := first_any _
          by_cases h48 : c0 = 48
          · have q48 : (c0 == 48) = true := beq_iff_eq.mpr h48
            clear h48
            by_cases h1p : 1 < p
            · have d3 : decide ((1 : Int) < (p : Int)) = true := decide_eq_true (by omega)
              go_wp2_with fail
              go_ret
              exact ⟨rfl, _, rfl, by omega⟩
            · have d3 : decide ((1 : Int) < (p : Int)) = false := decide_eq_false (by omega)
              go_wp2_with fail
              refine (CV.out _).mono ?_
              rintro e w' ⟨rfl, b, rfl, hb⟩
              cases b
              all_goals
                clear hb
                go_wp2_with fail
                go_ret
                exact ⟨rfl, _, rfl, by omega⟩
          · have q48 : (c0 == 48) = false := beq_eq_false_iff_ne.mpr h48
            clear h48
            go_wp2_with fail
            refine (CV.out _).mono ?_
            rintro e w' ⟨rfl, b, rfl, hb⟩
            cases b
            all_goals
              clear hb
              go_wp2_with fail
              go_ret
              exact ⟨rfl, _, rfl, by omega⟩
  · have hemp : s.toList.isEmpty = false := by
      rw [Lib.toList_data]
      cases hB : s.data.toList with
      | nil => have := Lib.size_eq s; rw [hB] at this; exact absurd this h0
      | cons a l => rfl
    have hp : 0 < s.size := by omega
    obtain ⟨v0, hv0⟩ : ∃ v : Int, ∀ h, ((s[0]'h).toNat : Int) = v := first_any s
    by_cases hsg : v0 = 45 ∨ v0 = 43
    · have hq : (v0 == 45) = true ∨ ((v0 == 45) = false ∧ (v0 == 43) = true) := by
        rcases hsg with h | h
        · exact .inl (by rw [h]; rfl)
        · exact .inr ⟨by rw [h]; rfl, by rw [h]; rfl⟩
      have hxs : (s.extract 1 s.size).size ≤ 140737488351232 := by rw [ByteArray.size_extract]; omega
      have h1s : 1 ≤ s.size := by omega
      clear hsg
      rcases hq with q | ⟨q, q'⟩
      all_goals
        go_enter Tryz.func78, Tryz.ntmps78
        go_wp2_with fail
        generalize s.extract 1 s.size = T at hxs ⊢
        have hts : T.size ≤ 140737488351232 := hxs
        go_loop [3] (fun v => ∃ p : Nat, p ≤ T.size ∧ v = .int .i64 p) (fun v => T.size - (intOf v).toNat)
        case atStart => exact ⟨0, Nat.zero_le _, rfl⟩
        case round =>
          obtain ⟨p, hp, rfl⟩ := hrel
          have hwz : (T.extract 0 p).size = p := by rw [ByteArray.size_extract]; omega
          have key : ∀ (hc : p = T.size ∨ (p < T.size ∧ ∀ h, ((T[p]'h).toNat : Int) = 46)), True := fun _ => trivial
          by_cases hgo : p < T.size ∧ ∃ h, ((T[p]'h).toNat : Int) ≠ 46
          · obtain ⟨hlt, hh, hne⟩ := hgo
            have q46 : ∀ h, (((T[p]'h).toNat : Int) != 46) = true := fun h => bne_iff_ne.mpr hne
            have d1 : decide ((p : Int) < (T.size : Int)) = true := decide_eq_true (by omega)
            clear hwz hne
            go_wp2_with fail
            go_round
            case rel => exact ⟨p + 1, by omega, by go_num⟩
            case measure => simp [intOf]; omega
          · have hst : (p = T.size ∧ decide ((p : Int) < (T.size : Int)) = false) ∨ (p < T.size ∧ decide ((p : Int) < (T.size : Int)) = true ∧ ∀ h, (((T[p]'h).toNat : Int) != 46) = false) := by
              by_cases hlt : p < T.size
              · refine .inr ⟨hlt, decide_eq_true (by omega), fun h => ?_⟩
                rw [bne_eq_false_iff_eq]
                exact Decidable.byContradiction fun hn => hgo ⟨hlt, h, hn⟩
              · exact .inl ⟨by omega, decide_eq_false (by omega)⟩
            have CW := digits_any (T.extract 0 p) (by omega) 1 18
            unfold DigP at CW
            rw [hwz] at CW
            have CW := Aside0.mk CW
            clear hgo
            rcases hst with ⟨hpe, d1⟩ | ⟨hlt, d1, q46⟩
            · subst hpe
              have CT := Aside0.mk (digits_any T hts 1 18)
              unfold DigP at CT
              clear hwz CW d1
              go_wp2_with fail
              refine (CT.out _).mono ?_
              rintro e w' ⟨rfl, b, rfl, hb⟩
              cases b
              case false =>
                clear hb
                go_wp2_with fail
                go_ret
                exact ⟨rfl, 0, rfl, .inl rfl⟩
              have hp1 : 1 ≤ T.size := by have := hb rfl; omega
              clear hb
              have hz0 : 0 < T.size := by omega
              obtain ⟨c0, hc0⟩ : ∃ c : Int, ∀ h, ((T[0]'h).toNat : Int) = c := first_any T
              by_cases h48 : c0 = 48
              · have q48 : (c0 == 48) = true := beq_iff_eq.mpr h48
                clear h48
                by_cases h1p : 1 < T.size
                · have d3 : decide ((1 : Int) < (T.size : Int)) = true := decide_eq_true (by omega)
                  go_wp2_with fail
                  go_ret
                  exact ⟨rfl, _, rfl, by omega⟩
                · have d3 : decide ((1 : Int) < (T.size : Int)) = false := decide_eq_false (by omega)
                  go_wp2_with fail
                  go_ret
                  exact ⟨rfl, _, rfl, by omega⟩
              · have q48 : (c0 == 48) = false := beq_eq_false_iff_ne.mpr h48
                clear h48
                go_wp2_with fail
                go_ret
                exact ⟨rfl, _, rfl, by omega⟩
            · have qpe : ((p : Int) == (T.size : Int)) = false := beq_eq_false_iff_ne.mpr (by omega)
              have hxz : (T.extract (p + 1) T.size).size ≤ 140737488351232 := by rw [ByteArray.size_extract]; omega
              have CV := Aside0.mk (digits_any (T.extract (p + 1) T.size) hxz 1 6)
              unfold DigP at CV
              have HWZ := Aside0.mk hwz
              clear hwz hxz
              go_wp2_with fail
              refine (CW.out _).mono ?_
              rintro e w' ⟨rfl, b, rfl, hb⟩
              cases b
              case false =>
                clear hb
                go_wp2_with fail
                go_ret
                exact ⟨rfl, 0, rfl, .inl rfl⟩
              have hp1 : 1 ≤ p := by have := hb rfl; omega
              clear hb
              have hz0 : 0 < (T.extract 0 p).size := by rw [HWZ.out]; omega
              have hzz : ((T.extract 0 p).size : Int) = (p : Int) := by rw [HWZ.out]
              obtain ⟨c0, hc0⟩ : ∃ c : Int, ∀ h, (((T.extract 0 p)[0]'h).toNat : Int) = c := first_any _
              by_cases h48 : c0 = 48
              · have q48 : (c0 == 48) = true := beq_iff_eq.mpr h48
                clear h48
                by_cases h1p : 1 < p
                · have d3 : decide ((1 : Int) < (p : Int)) = true := decide_eq_true (by omega)
                  go_wp2_with fail
                  go_ret
                  exact ⟨rfl, _, rfl, by omega⟩
                · have d3 : decide ((1 : Int) < (p : Int)) = false := decide_eq_false (by omega)
                  go_wp2_with fail
                  refine (CV.out _).mono ?_
                  rintro e w' ⟨rfl, b, rfl, hb⟩
                  cases b
                  all_goals
                    clear hb
                    go_wp2_with fail
                    go_ret
                    exact ⟨rfl, _, rfl, by omega⟩
              · have q48 : (c0 == 48) = false := beq_eq_false_iff_ne.mpr h48
                clear h48
                go_wp2_with fail
                refine (CV.out _).mono ?_
                rintro e w' ⟨rfl, b, rfl, hb⟩
                cases b
                all_goals
                  clear hb
                  go_wp2_with fail
                  go_ret
                  exact ⟨rfl, _, rfl, by omega⟩
    · have q : (v0 == 45) = false := beq_eq_false_iff_ne.mpr fun h => hsg (.inl h)
      have q' : (v0 == 43) = false := beq_eq_false_iff_ne.mpr fun h => hsg (.inr h)
      clear hsg
      go_enter Tryz.func78, Tryz.ntmps78
      go_wp2_with fail
      obtain ⟨T, hT⟩ : ∃ T, T = s := ⟨_, rfl⟩
      have hts : T.size ≤ 140737488351232 := by rw [hT]; exact hs
      simp only [← hT]
      clear hT
      go_loop [3] (fun v => ∃ p : Nat, p ≤ T.size ∧ v = .int .i64 p) (fun v => T.size - (intOf v).toNat)
      case atStart => exact ⟨0, Nat.zero_le _, rfl⟩
      case round =>
        obtain ⟨p, hp, rfl⟩ := hrel
        have hwz : (T.extract 0 p).size = p := by rw [ByteArray.size_extract]; omega
        have key : ∀ (hc : p = T.size ∨ (p < T.size ∧ ∀ h, ((T[p]'h).toNat : Int) = 46)), True := fun _ => trivial
        by_cases hgo : p < T.size ∧ ∃ h, ((T[p]'h).toNat : Int) ≠ 46
        · obtain ⟨hlt, hh, hne⟩ := hgo
          have q46 : ∀ h, (((T[p]'h).toNat : Int) != 46) = true := fun h => bne_iff_ne.mpr hne
          have d1 : decide ((p : Int) < (T.size : Int)) = true := decide_eq_true (by omega)
          clear hwz hne
          go_wp2_with fail
          go_round
          case rel => exact ⟨p + 1, by omega, by go_num⟩
          case measure => simp [intOf]; omega
        · have hst : (p = T.size ∧ decide ((p : Int) < (T.size : Int)) = false) ∨ (p < T.size ∧ decide ((p : Int) < (T.size : Int)) = true ∧ ∀ h, (((T[p]'h).toNat : Int) != 46) = false) := by
            by_cases hlt : p < T.size
            · refine .inr ⟨hlt, decide_eq_true (by omega), fun h => ?_⟩
              rw [bne_eq_false_iff_eq]
              exact Decidable.byContradiction fun hn => hgo ⟨hlt, h, hn⟩
            · exact .inl ⟨by omega, decide_eq_false (by omega)⟩
          have CW := digits_any (T.extract 0 p) (by omega) 1 18
          unfold DigP at CW
          rw [hwz] at CW
          have CW := Aside0.mk CW
          clear hgo
          rcases hst with ⟨hpe, d1⟩ | ⟨hlt, d1, q46⟩
          · subst hpe
            have CT := Aside0.mk (digits_any T hts 1 18)
            unfold DigP at CT
            clear hwz CW d1
            go_wp2_with fail
            refine (CT.out _).mono ?_
            rintro e w' ⟨rfl, b, rfl, hb⟩
            cases b
            case false =>
              clear hb
              go_wp2_with fail
              go_ret
              exact ⟨rfl, 0, rfl, .inl rfl⟩
            have hp1 : 1 ≤ T.size := by have := hb rfl; omega
            clear hb
            have hz0 : 0 < T.size := by omega
            obtain ⟨c0, hc0⟩ : ∃ c : Int, ∀ h, ((T[0]'h).toNat : Int) = c := first_any T
            by_cases h48 : c0 = 48
            · have q48 : (c0 == 48) = true := beq_iff_eq.mpr h48
              clear h48
              by_cases h1p : 1 < T.size
              · have d3 : decide ((1 : Int) < (T.size : Int)) = true := decide_eq_true (by omega)
                go_wp2_with fail
                go_ret
                exact ⟨rfl, _, rfl, by omega⟩
              · have d3 : decide ((1 : Int) < (T.size : Int)) = false := decide_eq_false (by omega)
                go_wp2_with fail
                go_ret
                exact ⟨rfl, _, rfl, by omega⟩
            · have q48 : (c0 == 48) = false := beq_eq_false_iff_ne.mpr h48
              clear h48
              go_wp2_with fail
              go_ret
              exact ⟨rfl, _, rfl, by omega⟩
          · have qpe : ((p : Int) == (T.size : Int)) = false := beq_eq_false_iff_ne.mpr (by omega)
            have hxz : (T.extract (p + 1) T.size).size ≤ 140737488351232 := by rw [ByteArray.size_extract]; omega
            have CV := Aside0.mk (digits_any (T.extract (p + 1) T.size) hxz 1 6)
            unfold DigP at CV
            have HWZ := Aside0.mk hwz
            clear hwz hxz
            go_wp2_with fail
            refine (CW.out _).mono ?_
            rintro e w' ⟨rfl, b, rfl, hb⟩
            cases b
            case false =>
              clear hb
              go_wp2_with fail
              go_ret
              exact ⟨rfl, 0, rfl, .inl rfl⟩
            have hp1 : 1 ≤ p := by have := hb rfl; omega
            clear hb
            have hz0 : 0 < (T.extract 0 p).size := by rw [HWZ.out]; omega
            have hzz : ((T.extract 0 p).size : Int) = (p : Int) := by rw [HWZ.out]
            obtain ⟨c0, hc0⟩ : ∃ c : Int, ∀ h, (((T.extract 0 p)[0]'h).toNat : Int) = c := first_any _
            by_cases h48 : c0 = 48
            · have q48 : (c0 == 48) = true := beq_iff_eq.mpr h48
              clear h48
              by_cases h1p : 1 < p
              · have d3 : decide ((1 : Int) < (p : Int)) = true := decide_eq_true (by omega)
                go_wp2_with fail
                go_ret
                exact ⟨rfl, _, rfl, by omega⟩
              · have d3 : decide ((1 : Int) < (p : Int)) = false := decide_eq_false (by omega)
                go_wp2_with fail
                refine (CV.out _).mono ?_
                rintro e w' ⟨rfl, b, rfl, hb⟩
                cases b
                all_goals
                  clear hb
                  go_wp2_with fail
                  go_ret
                  exact ⟨rfl, _, rfl, by omega⟩
            · have q48 : (c0 == 48) = false := beq_eq_false_iff_ne.mpr h48
              clear h48
              go_wp2_with fail
              refine (CV.out _).mono ?_
              rintro e w' ⟨rfl, b, rfl, hb⟩
              cases b
              all_goals
                clear hb
                go_wp2_with fail
                go_ret
                exact ⟨rfl, _, rfl, by omega⟩

def nullW : List (List UInt8) := [[], [110, 117, 108, 108], [78, 117, 108, 108], [78, 85, 76, 76], [126]]
def boolW : List (List UInt8) := [[116, 114, 117, 101], [84, 114, 117, 101], [84, 82, 85, 69], [102, 97, 108, 115, 101], [70, 97, 108, 115, 101], [70, 65, 76, 83, 69]]
def oddW : List (List UInt8) := [[46, 105, 110, 102], [46, 73, 110, 102], [46, 73, 78, 70], [45, 46, 105, 110, 102], [45, 46, 73, 110, 102], [45, 46, 73, 78, 70], [43, 46, 105, 110, 102], [43, 46, 73, 110, 102], [43, 46, 73, 78, 70], [46, 110, 97, 110], [46, 78, 97, 78], [46, 78, 65, 78]]
/-- What Known tells: a null, a truth value just at their words; an infinity or no number just at theirs. -/
def KnP (s : ByteArray) (w : World) (e : Ending) (w' : World) : Prop := w = w' ∧ ∃ n : Int, e = .returned (.int .i64 n) ∧ (n = 1 → s.toList ∈ nullW) ∧ (n = 2 → s.toList ∈ boolW) ∧ (n = 5 ∨ n = 6 ↔ s.toList ∈ oddW)
set_option maxHeartbeats 8000000 in
set_option maxRecDepth 100000 in
theorem known_any (s : ByteArray) (hs : s.size ≤ 140737488351232) (w : World) : Calls Tryz.prog 29 #[.string s] w (KnP s w) := by
  have CN := Aside0.mk (number_any s hs)
  unfold KnP
  by_cases h0 : s.toList ∈ nullW
  · have fin : ∀ e w', (w = w' ∧ e = .returned (.int .i64 1)) → KnP s w e w' := fun e w' h => ⟨h.1, 1, h.2, fun _ => h0, fun h => absurd h (by decide), ⟨fun h => absurd h (by decide), fun h => absurd h (by
      simp only [nullW, List.mem_cons, List.not_mem_nil, or_false] at h0
      rcases h0 with h0 | h0 | h0 | h0 | h0 <;> (rw [h0]; decide))⟩⟩
    refine Calls.mono ?_ fin
    clear fin
    simp only [nullW, List.mem_cons, List.not_mem_nil, or_false] at h0
    rcases h0 with h0 | h0 | h0 | h0 | h0
    all_goals
      go_enter Tryz.func29, Tryz.ntmps29
      go_wp2
      go_ret
      exact ⟨rfl, rfl⟩
  by_cases h1 : s.toList ∈ boolW
  · have fin : ∀ e w', (w = w' ∧ e = .returned (.int .i64 2)) → KnP s w e w' := fun e w' h => ⟨h.1, 2, h.2, fun h => absurd h (by decide), fun _ => h1, ⟨fun h => absurd h (by decide), fun h => absurd h (by
      simp only [boolW, List.mem_cons, List.not_mem_nil, or_false] at h1
      rcases h1 with h1 | h1 | h1 | h1 | h1 | h1 <;> (rw [h1]; decide))⟩⟩
    refine Calls.mono ?_ fin
    clear fin h0
    simp only [boolW, List.mem_cons, List.not_mem_nil, or_false] at h1
    rcases h1 with h1 | h1 | h1 | h1 | h1 | h1
    all_goals
      go_enter Tryz.func29, Tryz.ntmps29
      go_wp2
      go_ret
      exact ⟨rfl, rfl⟩
  by_cases h2 : s.toList ∈ oddW
  · have fin : ∀ e w', (w = w' ∧ ∃ n : Int, e = .returned (.int .i64 n) ∧ (n = 5 ∨ n = 6)) → KnP s w e w' := fun e w' ⟨h, n, hn, hnn⟩ => ⟨h, n, hn, fun h => absurd h (by omega), fun h => absurd h (by omega), ⟨fun _ => h2, fun _ => hnn⟩⟩
    refine Calls.mono ?_ fin
    clear fin h0 h1
    simp only [oddW, List.mem_cons, List.not_mem_nil, or_false] at h2
    rcases h2 with h2 | h2 | h2 | h2 | h2 | h2 | h2 | h2 | h2 | h2 | h2 | h2
    all_goals
      go_enter Tryz.func29, Tryz.ntmps29
      go_wp2
      go_ret
      exact ⟨rfl, _, rfl, by decide⟩
  have fin : ∀ e w', NumK w e w' → KnP s w e w' := fun e w' ⟨h, n, hn, hnn⟩ => ⟨h, n, hn, fun h => absurd h (by omega), fun h => absurd h (by omega), ⟨fun h => absurd h (by omega), fun h => absurd h h2⟩⟩
  refine Calls.mono ?_ fin
  clear fin
  simp only [nullW, boolW, oddW, List.mem_cons, List.not_mem_nil, or_false, not_or] at h0 h1 h2
  have z0 : (s.toList == []) = false := beq_eq_false_iff_ne.mpr h0.1
  have z1 : (s.toList == [110, 117, 108, 108]) = false := beq_eq_false_iff_ne.mpr h0.2.1
  have z2 : (s.toList == [78, 117, 108, 108]) = false := beq_eq_false_iff_ne.mpr h0.2.2.1
  have z3 : (s.toList == [78, 85, 76, 76]) = false := beq_eq_false_iff_ne.mpr h0.2.2.2.1
  have z4 : (s.toList == [126]) = false := beq_eq_false_iff_ne.mpr h0.2.2.2.2
  have b0 : (s.toList == [116, 114, 117, 101]) = false := beq_eq_false_iff_ne.mpr h1.1
  have b1 : (s.toList == [84, 114, 117, 101]) = false := beq_eq_false_iff_ne.mpr h1.2.1
  have b2 : (s.toList == [84, 82, 85, 69]) = false := beq_eq_false_iff_ne.mpr h1.2.2.1
  have b3 : (s.toList == [102, 97, 108, 115, 101]) = false := beq_eq_false_iff_ne.mpr h1.2.2.2.1
  have b4 : (s.toList == [70, 97, 108, 115, 101]) = false := beq_eq_false_iff_ne.mpr h1.2.2.2.2.1
  have b5 : (s.toList == [70, 65, 76, 83, 69]) = false := beq_eq_false_iff_ne.mpr h1.2.2.2.2.2
  have o0 : (s.toList == [46, 105, 110, 102]) = false := beq_eq_false_iff_ne.mpr h2.1
  have o1 : (s.toList == [46, 73, 110, 102]) = false := beq_eq_false_iff_ne.mpr h2.2.1
  have o2 : (s.toList == [46, 73, 78, 70]) = false := beq_eq_false_iff_ne.mpr h2.2.2.1
  have o3 : (s.toList == [45, 46, 105, 110, 102]) = false := beq_eq_false_iff_ne.mpr h2.2.2.2.1
  have o4 : (s.toList == [45, 46, 73, 110, 102]) = false := beq_eq_false_iff_ne.mpr h2.2.2.2.2.1
  have o5 : (s.toList == [45, 46, 73, 78, 70]) = false := beq_eq_false_iff_ne.mpr h2.2.2.2.2.2.1
  have o6 : (s.toList == [43, 46, 105, 110, 102]) = false := beq_eq_false_iff_ne.mpr h2.2.2.2.2.2.2.1
  have o7 : (s.toList == [43, 46, 73, 110, 102]) = false := beq_eq_false_iff_ne.mpr h2.2.2.2.2.2.2.2.1
  have o8 : (s.toList == [43, 46, 73, 78, 70]) = false := beq_eq_false_iff_ne.mpr h2.2.2.2.2.2.2.2.2.1
  have o9 : (s.toList == [46, 110, 97, 110]) = false := beq_eq_false_iff_ne.mpr h2.2.2.2.2.2.2.2.2.2.1
  have o10 : (s.toList == [46, 78, 97, 78]) = false := beq_eq_false_iff_ne.mpr h2.2.2.2.2.2.2.2.2.2.2.1
  have o11 : (s.toList == [46, 78, 65, 78]) = false := beq_eq_false_iff_ne.mpr h2.2.2.2.2.2.2.2.2.2.2.2
  clear h0 h1 h2
  go_enter Tryz.func29, Tryz.ntmps29
  go_wp2_with fail
  refine (CN.out _).mono ?_
  rintro e w1 ⟨rfl, n, rfl, hn⟩
  have HN := Aside0.mk hn
  clear hn
  go_wp2_with fail
  go_ret
  exact ⟨rfl, n, rfl, HN.out⟩
end Go.Proofs.YtlkbhmmelejmjaaGreatDoor.QKnow

/- FnQuotesSigns: what is bare, and the law. -/
namespace Go.Proofs.YtlkbhmmelejmjaaGreatDoor.QSigns
open Go.RowKit Go.Proofs.YtlkbhmmelejmjaaGreatDoorW.PrintWords Go.Proofs.YtlkbhmmelejmjaaGreatDoor.NumErr Go.Proofs.YtlkbhmmelejmjaaGreatDoor.NumAny Go.Proofs.YtlkbhmmelejmjaaGreatDoor.NumAll Go.Proofs.YtlkbhmmelejmjaaGreatDoor.NumIs Go.Proofs.YtlkbhmmelejmjaaGreatDoor.FltAtof Go.Proofs.YtlkbhmmelejmjaaGreatDoor.NumPure Go.Proofs.YtlkbhmmelejmjaaGreatDoor.QKnown Go.Proofs.YtlkbhmmelejmjaaGreatDoor.Utf Go.Proofs.YtlkbhmmelejmjaaGreatDoor.QEnc Go.Proofs.YtlkbhmmelejmjaaGreatDoor.Runes Go.Proofs.YtlkbhmmelejmjaaGreatDoor.QPlain Go.Proofs.YtlkbhmmelejmjaaGreatDoor.QMay Go.Proofs.YtlkbhmmelejmjaaGreatDoor.QNeed Go.Proofs.YtlkbhmmelejmjaaGreatDoor.QKnow
set_option linter.unusedVariables false
set_option linter.unusedSimpArgs false
attribute [local go_sem ↓] Go.wp_at_zero Go.wp_at_succ

theorem has_l0 (v : ByteArray) (hs : v.size ≤ 2305843009213693952) : ∀ (d i : Nat), v.size - i ≤ d → i ≤ v.size → ∃ r, spec_Has.l0 (3 * d + 1) v ⟨#[9]⟩ (i : Int) = some r ∧ (r = false → ∀ j, i ≤ j → (h : j < v.size) → v[j] ≠ 9)
  | 0, i, h1, h2 => by
    obtain rfl : i = v.size := by omega
    refine ⟨false, ?_, fun _ j hj h => absurd h (by omega)⟩
    simp only [spec_Has.l0]
    rw [if_neg (by omega)]
  | d + 1, i, h1, h2 => by
    by_cases hlt : i < v.size
    · obtain ⟨r, hr, hj⟩ := has_l0 v hs d (i + 1) (by omega) (by omega)
      have hb0 : bt v (i : Int) = ((v[i]).toNat : Int) := by rw [← bt_at v (i : Int) hlt]; rfl
      have hw1 : wrap64 ((0 : Int) + 1) = 1 := by unfold wrap64; omega
      have hwi : wrap64 ((i : Int) + 1) = ((i + 1 : Nat) : Int) := by unfold wrap64; omega
      have hp0 : bt ⟨#[9]⟩ 0 = 9 := rfl
      have hz : ((⟨#[9]⟩ : ByteArray).size : Int) = 1 := rfl
      by_cases e0 : bt v (i : Int) = 9
      · refine ⟨true, ?_, fun e => by cases e⟩
        show spec_Has.l0 (3 * d + 1 + 1 + 1 + 1) v ⟨#[9]⟩ (i : Int) = some true
        simp only [spec_Has.l0, spec_Has.l1]
        rw [if_pos (by omega), hz, if_pos (by omega), if_pos (by omega), if_pos (by omega), if_pos (by omega), if_pos (by rw [hp0]; exact e0)]
      · refine ⟨r, ?_, fun hf j hij h => ?_⟩
        · show spec_Has.l0 (3 * d + 1 + 1 + 1 + 1) v ⟨#[9]⟩ (i : Int) = some r
          have : spec_Has.l0 (3 * d + 1 + 1 + 1 + 1) v ⟨#[9]⟩ (i : Int) = spec_Has.l0 (3 * d + 1) v ⟨#[9]⟩ ((i + 1 : Nat) : Int) := by
            conv => lhs; unfold spec_Has.l0
            rw [if_pos (by omega)]
            conv => lhs; unfold spec_Has.l1
            rw [hz, if_pos (by omega), if_pos (by omega), if_pos (by omega), if_pos (by omega), if_neg (by rw [hp0]; exact e0), hw1]
            conv => lhs; unfold spec_Has.l1
            rw [hz, if_neg (by omega), hwi]
          rw [this]; exact hr
        · by_cases hji : j = i
          · subst hji
            rw [hb0] at e0
            exact fun e => e0 (by rw [e]; rfl)
          · exact hj hf j (by omega) h
    · refine ⟨false, ?_, fun _ j hj h => absurd h (by omega)⟩
      show spec_Has.l0 (3 * d + 3 + 1) v ⟨#[9]⟩ (i : Int) = some false
      simp only [spec_Has.l0]
      rw [if_neg (by omega)]
theorem has_tab (v : ByteArray) (hs : v.size ≤ 2305843009213693952) : ∃ r : Bool, (∀ w, Calls Tryz.prog 31 #[.string v, .string ⟨#[9]⟩] w (Same r w)) ∧ (r = false → (9 : UInt8) ∉ v.data.toList) := by
  obtain ⟨r, hr, hj⟩ := has_l0 v hs v.size 0 (by omega) (by omega)
  refine ⟨r, fun w => (spec_Has.calls _ v ⟨#[9]⟩ r w hr).mono fun e w' ⟨h1, m, h2⟩ => ⟨h1, m, h2⟩, fun hf hm => ?_⟩
  obtain ⟨j, hj1, hj2⟩ := List.mem_iff_getElem.1 hm
  exact (hj hf j (by omega) (by rw [Lib.size_eq]; exact hj1)) hj2
theorem begins_c (s p : ByteArray) (W : World) : Calls Tryz.prog 32 #[.string s, .string p] W (Same (hp s p) W) := by
  refine (spec_Begins.calls s p (hp s p) W ?_).mono fun e w' ⟨h1, m, h2⟩ => ⟨h1, m, h2⟩
  have h := Lib.hasPrefix_raw s p
  unfold spec_Begins.f hp
  rw [← h]
  by_cases hc : p.size ≤ s.size
  · rw [if_pos (by omega), if_pos (by omega), if_pos (by omega), decide_eq_true hc, Bool.true_and, Int.toNat_natCast]
  · rw [if_neg (by omega), decide_eq_false hc, Bool.false_and]

/-- A bare line: what the laws of quotes speak of. -/
structure BareF (s : ByteArray) (rs : List Int) : Prop where
  size : s.size ≤ 65536
  sc : ∀ r ∈ rs, Scalar r
  enc : B s = enc rs
  al : all false rs = true
  tab : (9 : UInt8) ∉ s.data.toList
  ask : hp s ⟨#[63]⟩ = false
  dash : hp s ⟨#[45, 45, 45]⟩ = false
  dots : hp s ⟨#[46, 46, 46]⟩ = false
  odd : s.toList ∉ oddW
def BareP (s : ByteArray) (w : World) (e : Ending) (w' : World) : Prop := Below w.heap.size w w' ∧ ∃ b, e = .returned (.bool b) ∧ (b = true → ∃ rs, BareF s rs)

set_option maxHeartbeats 8000000 in
set_option maxRecDepth 100000 in
theorem bare_walk (s : ByteArray) (hs : s.size ≤ 140737488351232) (w : World) (hT : Tabs w) : Calls Tryz.prog 16 #[.string s] w (BareP s w) := by
  have CK := Aside0.mk (known_any s hs w)
  obtain ⟨r1, hH, htab⟩ := has_tab s (by omega)
  replace hH := Aside0.mk hH
  have CB := begins_c s
  by_cases hm : mayStand false s
  case neg =>
    have CR := Aside0.mk (row_no s w hT hs hm)
    clear hm hT htab
    go_enter Tryz.func16, Tryz.ntmps16
    go_wp2_with fail
    refine CK.out.mono ?_
    rintro e w0 ⟨rfl, n, rfl, hn⟩
    have HN := Aside0.mk hn
    clear hn
    go_wp2_with fail
    refine CR.out.mono ?_
    rintro e w1 ⟨rfl, b1⟩
    have B1 := Aside0.mk b1
    clear b1
    go_wp2_with fail
    go_ret
    exact ⟨B1.out, false, rfl, fun h => by cases h⟩
  have CR := Aside0.mk (row_yes s w hT hm)
  have HM := Aside0.mk hm
  have HTB := Aside0.mk htab
  clear hm hT htab
  go_enter Tryz.func16, Tryz.ntmps16
  go_wp2_with fail
  refine CK.out.mono ?_
  rintro e w0 ⟨rfl, n, rfl, hn⟩
  have HN := Aside0.mk hn
  clear hn
  go_wp2_with fail
  refine CR.out.mono ?_
  rintro e w1 ⟨rfl, b1⟩
  have B1 := Aside0.mk b1
  clear b1
  have fin : ∀ (b : Bool) (m : Nat), (b = true → r1 = false ∧ hp s ⟨#[63]⟩ = false ∧ hp s ⟨#[45, 45, 45]⟩ = false ∧ hp s ⟨#[46, 46, 46]⟩ = false ∧ n ≠ 5 ∧ n ≠ 6) → BareP s w (.returned (.bool b)) (w1.drewN m) := fun b m h => ⟨pw_below_drewN B1.out m, b, rfl, fun hb => by
    obtain ⟨h1, h2, h3, h4, h5, h6⟩ := h hb
    obtain ⟨m1, rs, m2, m3, m4⟩ := HM.out
    exact ⟨rs, m1, m2, m3, m4, HTB.out h1, h2, h3, h4, fun ho => by rcases HN.out.2.2.2 ho with h | h; exact h5 h; exact h6 h⟩⟩
  have FIN := Aside0.mk fin
  clear fin
  cases r1
  case true =>
    go_wp2_with (first | (go_at_call 31; refine (hH.out _).mono ?_; rintro e w' ⟨rfl, m, rfl⟩) | (go_at_call 32; refine (CB _ _).mono ?_; rintro e w' ⟨rfl, m, rfl⟩))
    go_ret
    exact FIN.out false _ (fun h => by cases h)
  by_cases c1 : hp s ⟨#[63]⟩ = true
  · go_wp2_with (first | (go_at_call 31; refine (hH.out _).mono ?_; rintro e w' ⟨rfl, m, rfl⟩) | (go_at_call 32; refine (CB _ _).mono ?_; rintro e w' ⟨rfl, m, rfl⟩))
    go_ret
    exact FIN.out false _ (fun h => by cases h)
  replace c1 : hp s ⟨#[63]⟩ = false := by simpa using c1
  by_cases c0 : hp s ⟨#[60, 60]⟩ = true
  · go_wp2_with (first | (go_at_call 31; refine (hH.out _).mono ?_; rintro e w' ⟨rfl, m, rfl⟩) | (go_at_call 32; refine (CB _ _).mono ?_; rintro e w' ⟨rfl, m, rfl⟩))
    go_ret
    exact FIN.out false _ (fun h => by cases h)
  replace c0 : hp s ⟨#[60, 60]⟩ = false := by simpa using c0
  by_cases c2 : hp s ⟨#[45, 45, 45]⟩ = true
  · go_wp2_with (first | (go_at_call 31; refine (hH.out _).mono ?_; rintro e w' ⟨rfl, m, rfl⟩) | (go_at_call 32; refine (CB _ _).mono ?_; rintro e w' ⟨rfl, m, rfl⟩))
    go_ret
    exact FIN.out false _ (fun h => by cases h)
  replace c2 : hp s ⟨#[45, 45, 45]⟩ = false := by simpa using c2
  by_cases c3 : hp s ⟨#[46, 46, 46]⟩ = true
  · go_wp2_with (first | (go_at_call 31; refine (hH.out _).mono ?_; rintro e w' ⟨rfl, m, rfl⟩) | (go_at_call 32; refine (CB _ _).mono ?_; rintro e w' ⟨rfl, m, rfl⟩))
    go_ret
    exact FIN.out false _ (fun h => by cases h)
  replace c3 : hp s ⟨#[46, 46, 46]⟩ = false := by simpa using c3
  by_cases n5 : n = 5
  · subst n5
    go_wp2_with (first | (go_at_call 31; refine (hH.out _).mono ?_; rintro e w' ⟨rfl, m, rfl⟩) | (go_at_call 32; refine (CB _ _).mono ?_; rintro e w' ⟨rfl, m, rfl⟩))
    go_ret
    exact FIN.out false _ (fun h => by cases h)
  have q5 : (n != 5) = true := bne_iff_ne.mpr n5
  have HN5 := Aside0.mk n5
  clear n5
  by_cases n6 : n = 6
  · subst n6
    go_wp2_with (first | (go_at_call 31; refine (hH.out _).mono ?_; rintro e w' ⟨rfl, m, rfl⟩) | (go_at_call 32; refine (CB _ _).mono ?_; rintro e w' ⟨rfl, m, rfl⟩))
    go_ret
    exact FIN.out false _ (fun h => by cases h)
  have q6 : (n != 6) = true := bne_iff_ne.mpr n6
  have HN6 := Aside0.mk n6
  clear n6
  go_wp2_with (first | (go_at_call 31; refine (hH.out _).mono ?_; rintro e w' ⟨rfl, m, rfl⟩) | (go_at_call 32; refine (CB _ _).mono ?_; rintro e w' ⟨rfl, m, rfl⟩))
  go_ret
  exact FIN.out true _ (fun h => ⟨by first | rfl | trivial, c1, c2, c3, HN5.out, HN6.out⟩)

theorem getD_mem {rs : List Int} {k : Nat} (h : k < rs.length) : rs.getD k 0 ∈ rs := by
  rw [List.getD_eq_getElem?_getD, List.getElem?_eq_getElem h]
  exact List.getElem_mem h
theorem no_nine {s : ByteArray} {rs : List Int} (h : BareF s rs) : (9 : Int) ∉ rs := by
  intro hm
  refine h.tab ?_
  rw [show s.data.toList = enc rs from h.enc]
  unfold enc
  refine List.mem_flatMap.2 ⟨9, hm, ?_⟩
  decide
theorem sc_three {a : Int} {t : List Int} {s : ByteArray} {rs : List Int} (h : BareF s rs) (hr : rs = a :: a :: a :: t) (b : UInt8) (hb : Lib.encodeRune a = [b]) : hp s ⟨#[b, b, b]⟩ = true := by
  unfold hp
  rw [show s.data.toList = enc rs from h.enc, hr, enc_cons, enc_cons, enc_cons, hb]
  simp [Lib.hasPrefix]
theorem no_mark {s : ByteArray} {rs : List Int} (h : BareF s rs) : mkr rs = false := by
  rw [Bool.eq_false_iff]
  intro hm
  unfold mkr at hm
  simp only [Bool.and_eq_true, Bool.or_eq_true, decide_eq_true_eq] at hm
  obtain ⟨⟨⟨h3, h0⟩, h1⟩, h2⟩ := hm
  obtain ⟨a, b, c, t, rfl⟩ : ∃ a b c t, rs = a :: b :: c :: t := by
    match rs, h3 with
    | a :: b :: c :: t, _ => exact ⟨a, b, c, t, rfl⟩
  simp only [List.getD_cons_zero, List.getD_cons_succ] at h0 h1 h2
  subst h1 h2
  rcases h0 with rfl | rfl
  · have := sc_three h rfl 45 (by decide)
    rw [h.dash] at this
    cases this
  · have := sc_three h rfl 46 (by decide)
    rw [h.dots] at this
    cases this
theorem no_ask {s : ByteArray} {rs : List Int} (h : BareF s rs) (hne : rs ≠ []) : rs.getD 0 0 ≠ 63 := by
  intro h0
  cases rs with
  | nil => exact hne rfl
  | cons a t =>
    have ha : a = 63 := h0
    have : hp s ⟨#[63]⟩ = true := by
      unfold hp
      rw [show s.data.toList = enc (a :: t) from h.enc, ha, enc_cons, show Lib.encodeRune 63 = [63] by decide]
      simp [Lib.hasPrefix]
    rw [h.ask] at this
    cases this
theorem wh_no {c : Int} (h1 : c ≠ 32) (h2 : c ≠ 9) : wh c = false := by unfold wh; simp [h1, h2]
/-- A bare line that needs no quotes for its signs may be plain. -/
theorem plain_ok {s : ByteArray} {rs : List Int} (h : BareF s rs) (hne : rs ≠ []) (hF : Fact rs) : mp rs = true := by
  obtain ⟨f0, f1, f2, f3, f4⟩ := hF
  have hl : 0 < rs.length := List.length_pos_iff.2 hne
  have n9 : ∀ k, k < rs.length → rs.getD k 0 ≠ 9 := fun k hk e => no_nine h (e ▸ getD_mem hk)
  have n10 : ∀ k, k < rs.length → rs.getD k 0 ≠ 10 := fun k hk e => no_ten h.al (e ▸ getD_mem hk)
  have hw0 : wh (rs.getD 0 0) = false := wh_no (f1 32 (by decide)) (n9 0 hl)
  have hwl : wh (rs.getD (rs.length - 1) 0) = false := wh_no f3 (n9 _ (by omega))
  have hps : ∀ i, i < rs.length → psn rs i = true := fun i hi => by
    obtain ⟨g1, g2, g3⟩ := f4 i hi
    unfold psn
    rw [if_neg g1]
    by_cases h58 : rs.getD i 0 = 58
    · rw [if_pos h58]
      have h1 : i + 1 ≠ rs.length := fun e => f2 (by rw [← e, Nat.add_sub_cancel]; exact h58)
      have hlt : i + 1 < rs.length := by omega
      unfold lastW
      rw [wh_no (g3 (.inl h58) hlt) (n9 _ hlt)]
      simp only [Bool.or_false, Bool.not_eq_true', Bool.or_eq_false_iff, decide_eq_false_iff_not]
      exact ⟨h1, n10 _ hlt⟩
    · rw [if_neg h58]
  have hst : ∀ i, i < rs.length → stops rs i = false := fun i hi => by unfold stops; rw [hps i hi]; simp
  unfold mp
  rw [hw0, hwl, no_mark h]
  have hall : ((List.range rs.length).all fun i => !stops rs i) = true := by
    rw [List.all_eq_true]
    intro i hi
    rw [hst i (List.mem_range.1 hi)]; rfl
  rw [hall]
  cases hind : ind (rs.getD 0 0) with
  | false => rfl
  | true =>
    have h45 : rs.getD 0 0 = 45 ∨ rs.getD 0 0 = 58 := by
      have e1 := (f4 0 hl).1
      have e2 := no_ask h hne
      have e3 := f1
      simp only [firsts, List.mem_cons, List.not_mem_nil, or_false, forall_eq_or_imp, forall_eq] at e3
      unfold ind flowS at hind
      simp only [List.contains_cons, List.contains_nil, Bool.or_false, Bool.or_eq_true, beq_iff_eq, decide_eq_true_eq] at hind
      omega
    have h2 : 1 < rs.length := by
      refine Decidable.byContradiction fun hn => ?_
      have h1 : rs.length = 1 := by omega
      rcases h45 with e | e
      · refine f0 ?_
        obtain ⟨a, rfl⟩ := List.length_eq_one_iff.1 h1
        simpa using e
      · exact f2 (by rw [h1]; exact e)
    have hb : bad1 rs = false := by
      unfold bad1
      rw [wh_no ((f4 0 hl).2.2 (h45.elim .inr .inl) h2) (n9 1 h2)]
      simp only [Bool.or_false, Bool.or_eq_false_iff, Bool.and_eq_false_iff, decide_eq_false_iff_not]
      refine ⟨⟨?_, by omega⟩, n10 1 h2⟩
      rcases h45 with e | e
      · exact .inl (.inl (fun hn => hn e))
      · exact .inr (fun hn => hn e)
    rw [hb]; rfl

set_option maxRecDepth 100000 in
theorem may_empty (w : World) (hT : Runes.Tabs w) : Calls Tryz.prog 17 #[.string ⟨#[]⟩, .int .i64 1] w (QMay.Bo false w) := by
  have C := Aside0.mk (scRunes_ok ⟨#[]⟩ [] w hT (by decide) (by simp) rfl)
  clear hT
  go_enter Tryz.func17, Tryz.ntmps17
  go_wp2_with fail
  refine C.out.mono ?_
  rintro e w1 ⟨g, cap, rfl, hr, hc, hg, _, b1⟩
  have B1 := Aside0.mk b1
  clear b1 hr hc hg
  go_wp2_with fail
  go_ret
  exact ⟨rfl, B1.out⟩
set_option maxRecDepth 100000 in
theorem need_empty (w : World) : Calls Tryz.prog 43 #[.string ⟨#[]⟩] w (QMay.Bo true w) := by
  go_enter Tryz.func43, Tryz.ntmps43
  go_wp2_with fail
  go_ret
  exact ⟨rfl, Below.refl _ _⟩
/-- impl.NeedsQuotes hands on. -/
def NeB (P : Prop) (w : World) (e : Ending) (w' : World) : Prop := Below w.heap.size w w' ∧ ∃ b, e = .returned (.bool b) ∧ (P → b = true)
set_option maxRecDepth 100000 in
theorem needs_of (s : ByteArray) (P : Prop) (w : World) (C : Calls Tryz.prog 43 #[.string s] w (NeB P w)) : Calls Tryz.prog 18 #[.string s] w (NeB P w) := by
  replace C := Aside0.mk C
  go_enter Tryz.func18, Tryz.ntmps18
  go_wp2_with fail
  refine C.out.mono ?_
  rintro e w1 ⟨b1, b, rfl, hb⟩
  have B1 := Aside0.mk b1
  have HB := Aside0.mk hb
  clear b1 hb
  go_wp2_with fail
  go_ret
  exact ⟨B1.out, b, rfl, HB.out⟩

set_option maxHeartbeats 2000000 in
set_option maxRecDepth 100000 in
theorem law_walk (s : ByteArray) (w : World) (hbig : s.size ≤ 2147483647) (CB : Calls Tryz.prog 16 #[.string s] w (BareP s w)) (CM : (∃ rs, BareF s rs) → ∀ W, Below w.heap.size w W → ∃ P : Prop, (Calls Tryz.prog 17 #[.string s, .int .i64 1] W (fun e w' => Below W.heap.size W w' ∧ ∃ b, e = .returned (.bool b) ∧ (¬ P → b = true))) ∧ ∀ V, Below w.heap.size w V → Calls Tryz.prog 18 #[.string s] V (NeB P V)) : Calls Tryz.prog 6 #[.string s] w (QMay.Bo true w) := by
  have n5 : ¬ (2147483647 : Int) < (s.size : Int) := by omega
  replace CB := Aside0.mk CB
  replace CM := Aside0.mk CM
  go_enter Tryz.func6, Tryz.ntmps6
  go_wp2_with fail
  refine CB.out.mono ?_
  rintro e w1 ⟨b1, b, rfl, hb⟩
  have B1 := Aside0.mk b1
  cases b
  case false =>
    clear b1 hb
    go_wp2_with fail
    go_ret
    exact ⟨rfl, B1.out⟩
  obtain ⟨P, M, N⟩ := CM.out (hb rfl) w1 b1
  replace M := Aside0.mk M
  replace N := Aside0.mk N
  clear b1 hb
  go_wp2_with fail
  refine M.out.mono ?_
  rintro e w2 ⟨b2, b, rfl, hb⟩
  have B2 := Aside0.mk (B1.out.trans (b2.mono B1.out.size))
  cases b
  case true =>
    clear b2 hb
    go_wp2_with fail
    go_ret
    exact ⟨rfl, B2.out⟩
  have hP : P := Classical.byContradiction fun h => absurd (hb h) (by decide)
  replace hP := Aside0.mk hP
  clear b2 hb
  go_wp2_with fail
  refine (N.out _ B2.out).mono ?_
  rintro e w3 ⟨b3, b, rfl, hb⟩
  have B3 := Aside0.mk (B2.out.trans (b3.mono B2.out.size))
  obtain rfl := hb hP.out
  clear b3 hb
  go_wp2_with fail
  go_ret
  exact ⟨rfl, B3.out⟩

/-- FnQuotesSigns. -/
theorem law_any (B : Nat) (H O X : Nat → Nat) (EV : Nat → Value) (s : ByteArray) (w : World) (hB : B ≤ w.heap.size) (hT : FltAtof.Tabs B H O X w) (hE : Errs B EV w) (hX : ErrB B EV w) (hU : Runes.Tabs w) (hmax : s.size ≤ 140737488351232) : Calls Tryz.prog 6 #[.string s] w (QMay.Bo true w) := by
  by_cases hbig : 2147483647 < s.size
  · have n5 : (2147483647 : Int) < (s.size : Int) := by omega
    clear hT hE hB hU hX
    go_enter Tryz.func6, Tryz.ntmps6
    go_wp2_with fail
    go_ret
    exact ⟨rfl, Below.refl _ _⟩
  refine law_walk s w (by omega) (bare_walk s hmax w hU) ?_
  rintro ⟨rs, hb⟩ W hW
  have hU' : Runes.Tabs W := tabs_below hU hW
  by_cases hne : rs = []
  · have hs : s = ⟨#[]⟩ := by
      have := hb.enc
      rw [hne] at this
      exact ByteArray.ext (Array.ext' this)
    subst hs
    exact ⟨True, (may_empty W hU').mono fun e w' h => ⟨h.2, false, h.1, fun hn => absurd trivial hn⟩, fun V hV => needs_of _ True V ((need_empty V).mono fun e w' h => ⟨h.2, true, h.1, fun _ => rfl⟩)⟩
  · refine ⟨¬ Fact rs, (may_walk s rs W hU' ⟨hb.size, hb.sc, hb.enc, hb.al, hne⟩).mono fun e w' h => ⟨h.2, _, h.1, fun hF => plain_ok hb hne (Classical.not_not.1 hF)⟩, fun V hV => needs_of _ _ V ?_⟩
    refine (need_walk s rs (numR H O X s) V hb.size hb.sc hb.enc hne (is_any B H O X EV s (by have := hb.size; omega) V (Nat.le_trans hB hV.size) (hT.keep hV hB) (hE.keep hV hB) (hX.keep hV hB))).mono ?_
    rintro e w' ⟨h1, b, h2, h3⟩
    exact ⟨h1, b, h2, fun hF => h3 (.inr (.inr hF))⟩
end Go.Proofs.YtlkbhmmelejmjaaGreatDoor.QSigns

/- The tables that floats are read with, from what a row lists of them. -/
namespace Go.Proofs.YtlkbhmmelejmjaaGreatDoor.FltLaid
open Go.RowKit Go.Lib Go.Proofs.YtlkbhmmelejmjaaGreatDoorW.PrintWords Go.Proofs.YtlkbhmmelejmjaaGreatDoor.FltState Go.Proofs.YtlkbhmmelejmjaaGreatDoor.FltBoth Go.Proofs.YtlkbhmmelejmjaaGreatDoor.FltBitsP Go.Proofs.YtlkbhmmelejmjaaGreatDoor.FltBits Go.Proofs.YtlkbhmmelejmjaaGreatDoor.FltFast2 Go.Proofs.YtlkbhmmelejmjaaGreatDoor.FltNum Go.Proofs.YtlkbhmmelejmjaaGreatDoor.FltExact Go.Proofs.YtlkbhmmelejmjaaGreatDoor.FltHexP Go.Proofs.YtlkbhmmelejmjaaGreatDoor.FltAtof Go.Proofs.YtlkbhmmelejmjaaGreatDoor.NumErr
set_option linter.unusedVariables false
set_option linter.unusedSimpArgs false

section
variable {H : Type} {enc : TypeId × Value → H} {P : Program} {w : World} {base : Nat} {sp : Nat → Bool} {held : Bool} {fuel : Nat} {t e : TypeId} {cs : List Value} {p : List MemPlace}
theorem trod_float {k : FloatKind} {x : DataW H × List MemPlace} (ht : P.underlying t = some (.float k)) (h : DataW.trod enc P w base sp held fuel t cs = some x) : ∃ n, cs = [.float k n] ∧ x = (.lit (.float k n), []) := by
  cases fuel with
  | zero => simp [DataW.trod] at h
  | succ n =>
    unfold DataW.trod at h
    rw [ht] at h
    split at h <;> simp_all
/-- A slice: where it lies, and what each of its elements' cells read as. -/
theorem slice_reads {ds sp' : List (DataW H)} (ht : P.underlying t = some (.slice e)) (h : DataW.trod enc P w base sp held fuel t cs = some (.slice ds sp', p)) :
    ∃ (a : Addr) (cap n : Nat), cs = [.slice (some a) ds.length cap] ∧ ∀ i d, ds[i]? = some d → ∃ q cs', w.cells? base (a.add (i * P.cellsOf e)) (P.cellsOf e) = some cs' ∧ DataW.trod enc P w base sp held n e cs' = some (d, q) := by
  rcases DataW.trod_slice ht h with ⟨_, hx⟩ | ⟨a, len, cap, elems, rest, n, rfl, hcs, hx, _, _, _, hl, hel, _, _⟩
  · cases hx
  · have hd : ds = elems.map (·.1) := by
      have := congrArg Prod.fst hx
      simp only [DataW.slice.injEq] at this
      exact this.1
    have hdl : ds.length = len := by rw [hd, List.length_map, hl]
    refine ⟨a, cap, n, by rw [hcs, hdl], fun i d hi => ?_⟩
    rw [hd, List.getElem?_map, Option.map_eq_some_iff] at hi
    obtain ⟨b, hb, rfl⟩ := hi
    have hi' : i < len := by rw [← hl]; exact (List.getElem?_eq_some_iff.1 hb).1
    have := hel i hi'
    rw [hb, Option.bind_eq_some_iff] at this
    obtain ⟨cs', h1, h2⟩ := this
    exact ⟨b.2, cs', h1, h2⟩
theorem add_none (L o j : Nat) : Addr.add ⟨L, o, none⟩ j = ⟨L, o + j, none⟩ := by
  cases j <;> simp [Addr.add]
theorem of_none {a : Addr} {v : Value} (h : w.cell? (a.add 0) = some v) : ∃ L o, a = ⟨L, o, none⟩ := by
  obtain ⟨L, o, s⟩ := a
  have h0 : Addr.add ⟨L, o, s⟩ 0 = ⟨L, o, s⟩ := by simp [Addr.add]
  rw [h0] at h
  have : s = none := by
    cases s with
    | none => rfl
    | some x =>
      unfold World.cell? at h
      split at h <;> simp at h
  exact ⟨L, o, by rw [this]⟩
end

theorem var_lt {w : World} {n : String} {g : Nat} {cs : Array Value} (hg : Tryz.prog.globalNamed n = some g) (h : w.var? Tryz.prog n = some cs) : g < w.heap.size := by
  simp only [World.var?, hg, Option.bind_some] at h
  split at h
  · next c t fr hb => exact (Array.getElem?_eq_some_iff.1 hb).1
  · cases h

def powD : DataW Unit := .slice [.lit (.int .i64 1), .lit (.int .i64 3), .lit (.int .i64 6), .lit (.int .i64 9), .lit (.int .i64 13), .lit (.int .i64 16), .lit (.int .i64 19), .lit (.int .i64 23), .lit (.int .i64 26)] []
theorem pow_at : ∀ k, k < 9 → ([.lit (.int .i64 1), .lit (.int .i64 3), .lit (.int .i64 6), .lit (.int .i64 9), .lit (.int .i64 13), .lit (.int .i64 16), .lit (.int .i64 19), .lit (.int .i64 23), .lit (.int .i64 26)] : List (DataW Unit))[k]? = some (.lit (.int .i64 (pw k)))
  | 0, _ => rfl
  | 1, _ => rfl
  | 2, _ => rfl
  | 3, _ => rfl
  | 4, _ => rfl
  | 5, _ => rfl
  | 6, _ => rfl
  | 7, _ => rfl
  | 8, _ => rfl
  | k + 9, h => by omega
theorem pt_of {w : World} (h : VarReads Tryz.prog w "internal/strconv.powtab" powD) : PT w.heap.size w := by
  obtain ⟨g, t, cs, fuel, p, hg, hty, hvar, hd⟩ := h
  obtain rfl := Option.some.inj ((show Tryz.prog.globalNamed "internal/strconv.powtab" = some 8 by kernel_rfl).symm.trans hg)
  obtain rfl := Option.some.inj ((show (Tryz.prog.globals[8]?).map (·.type) = some 175 by kernel_rfl).symm.trans hty)
  obtain ⟨a, cap, n, hcs, hel⟩ := slice_reads Tryz.underlying175 hd
  have hc1 : Tryz.prog.cellsOf 3 = 1 := by kernel_rfl
  have hk : ∀ k, k < 9 → w.cell? (a.add k) = some (.int .i64 (pw k)) ∧ a.block < w.heap.size := fun k hk => by
    obtain ⟨q, cs', h1, h2⟩ := hel k _ (pow_at k hk)
    rw [hc1, Nat.mul_one] at h1
    obtain ⟨_, _, h3⟩ := World.cells?_some h1
    obtain ⟨z, hz, hx, _⟩ := DataW.trod_int Tryz.underlying3 h2
    have h4 := h3 0 (by omega)
    rw [hz] at h4
    have h5 : (a.add k).add 0 = a.add k := by simp [Addr.add]
    rw [h5] at h4
    simp only [Prod.mk.injEq, DataW.lit.injEq, Lit.int.injEq, true_and] at hx
    rw [hx.1]
    refine ⟨h4, ?_⟩
    have := World.block_lt_of_cell? w _ h4
    have hb : (a.add k).block = a.block := by unfold Addr.add; split <;> rfl
    rw [hb] at this
    exact this
  obtain ⟨L, o, rfl⟩ := of_none (hk 0 (by omega)).1
  refine ⟨L, o, cap, var_lt hg hvar, (hk 0 (by omega)).2, ?_, fun k hkk => ?_⟩
  · rw [World.var?_cell hg hvar 0, ← Array.getElem?_toList, hcs]; rfl
  · have := (hk k hkk).1
    rw [add_none] at this
    exact this

/-- The powers of ten as floats. -/
def XL : List Nat := [4607182418800017408, 4621819117588971520, 4636737291354636288, 4652007308841189376, 4666723172467343360, 4681608360884174848, 4696837146684686336, 4711630319722168320, 4726483295884279808, 4741671816366391296, 4756540486875873280, 4771362005757984768, 4786511204640096256, 4801453603149578240, 4816244402031689728, 4831355200913801216, 4846369599423283200, 4861130398305394688, 4876203697187506176, 4891288408196988160, 4906019910204099648, 4921056587992461136, 4936209963552724370]
def XF (k : Nat) : Nat := XL.getD k 0
def tenD : DataW Unit := .slice (XL.map fun x => .lit (.float .f64 x)) []
theorem pos_all : ((List.range 23).all fun k => match D.read (XF k) with | .number false n _ => n != 0 | _ => false) = true := by decide +kernel
theorem pos_at (k : Nat) (h : k < 23) : Pos (XF k) := by
  have := List.all_eq_true.1 pos_all k (List.mem_range.2 h)
  unfold Pos
  revert this
  cases D.read (XF k) with
  | number s n j =>
    cases s with
    | false => exact fun hn => ⟨n, j, rfl, by simpa using hn⟩
    | true => exact fun hn => by simp at hn
  | infinity s => exact fun hn => by simp at hn
  | _ => exact fun hn => by simp at hn
theorem xt_of {w : World} (h : VarReads Tryz.prog w "internal/strconv.float64pow10" tenD) : XT w.heap.size XF w := by
  obtain ⟨g, t, cs, fuel, p, hg, hty, hvar, hd⟩ := h
  obtain rfl := Option.some.inj ((show Tryz.prog.globalNamed "internal/strconv.float64pow10" = some 9 by kernel_rfl).symm.trans hg)
  obtain rfl := Option.some.inj ((show (Tryz.prog.globals[9]?).map (·.type) = some 177 by kernel_rfl).symm.trans hty)
  obtain ⟨a, cap, n, hcs, hel⟩ := slice_reads Tryz.underlying177 hd
  have hc1 : Tryz.prog.cellsOf 35 = 1 := by kernel_rfl
  have hk : ∀ k, k < 23 → w.cell? (a.add k) = some (.float .f64 (XF k)) ∧ a.block < w.heap.size := fun k hk => by
    have hX : (XL.map fun x => (.lit (.float .f64 x) : DataW Unit))[k]? = some (.lit (.float .f64 (XF k))) := by
      have hl : k < XL.length := hk
      rw [List.getElem?_map, List.getElem?_eq_getElem hl]
      simp [XF, List.getD, hl]
    obtain ⟨q, cs', h1, h2⟩ := hel k _ hX
    rw [hc1, Nat.mul_one] at h1
    obtain ⟨_, _, h3⟩ := World.cells?_some h1
    obtain ⟨z, hz, hx⟩ := trod_float Tryz.underlying35 h2
    have h4 := h3 0 (by omega)
    rw [hz] at h4
    have h5 : (a.add k).add 0 = a.add k := by simp [Addr.add]
    rw [h5] at h4
    simp only [Prod.mk.injEq, DataW.lit.injEq, Lit.float.injEq, true_and] at hx
    rw [hx.1]
    refine ⟨h4, ?_⟩
    have := World.block_lt_of_cell? w _ h4
    have hb : (a.add k).block = a.block := by unfold Addr.add; split <;> rfl
    rw [hb] at this
    exact this
  obtain ⟨L, o, rfl⟩ := of_none (hk 0 (by omega)).1
  refine ⟨L, o, cap, var_lt hg hvar, (hk 0 (by omega)).2, ?_, fun k hkk => ?_⟩
  · rw [World.var?_cell hg hvar 0, ← Array.getElem?_toList, hcs]; rfl
  · have := (hk k hkk).1
    rw [add_none] at this
    exact this

theorem cheat_len : Pinned.cheatRows.length = 61 := by decide +kernel
theorem lt_of {w : World} (h : VarReads Tryz.prog w "internal/strconv.leftcheats" Pinned.leftcheats) : LTb w.heap.size w := by
  obtain ⟨g, t, cs, fuel, p, hg, hty, hvar, hd⟩ := h
  obtain rfl := Option.some.inj ((show Tryz.prog.globalNamed "internal/strconv.leftcheats" = some 11 by kernel_rfl).symm.trans hg)
  obtain rfl := Option.some.inj ((show (Tryz.prog.globals[11]?).map (·.type) = some 193 by kernel_rfl).symm.trans hty)
  obtain ⟨a, cap, n, hcs, hel⟩ := slice_reads Tryz.underlying193 hd
  have hc2 : Tryz.prog.cellsOf 192 = 2 := by kernel_rfl
  have hi1 : Tryz.prog.cellsOf 3 = 1 := by kernel_rfl
  have hs1 : Tryz.prog.cellsOf 9 = 1 := by kernel_rfl
  have hlen : (Pinned.cheatRows.map fun x => (.agg [.lit (.int .i64 x.1), .lit (.string x.2)] : DataW Unit)).length = 61 := by rw [List.length_map, cheat_len]
  have hk : ∀ k, k < 61 → w.cell? (a.add (k * 2)) = some (.int .i64 (lcD k)) ∧ w.cell? ((a.add (k * 2)).add 1) = some (.string (lcT k)) ∧ a.block < w.heap.size := fun k hk => by
    have hl : k < Pinned.cheatRows.length := by rw [cheat_len]; exact hk
    have hX : (Pinned.cheatRows.map fun x => (.agg [.lit (.int .i64 x.1), .lit (.string x.2)] : DataW Unit))[k]? = some (.agg [.lit (.int .i64 (lcD k)), .lit (.string (lcL k))]) := by
      rw [List.getElem?_map, List.getElem?_eq_getElem hl]
      simp [lcD, lcL, List.getD, hl]
    obtain ⟨q, cs', h1, h2⟩ := hel k _ hX
    rw [hc2] at h1
    obtain ⟨_, hcl, h3⟩ := World.cells?_some h1
    obtain ⟨xs, n', hn', hxs, _, hxl, hall⟩ := DataW.trod_struct Tryz.underlying192 h2
    have hx2 : xs.map (·.1) = [.lit (.int .i64 (lcD k)), .lit (.string (lcL k))] := by
      have := congrArg Prod.fst hxs
      simpa using this.symm
    obtain ⟨x0, x1, rfl⟩ : ∃ x0 x1, xs = [x0, x1] := by
      match xs, hx2 with
      | [x0, x1], _ => exact ⟨x0, x1, rfl⟩
    simp only [List.map_cons, List.map_nil, List.cons.injEq, and_true] at hx2
    have f0 := hall 0 _ rfl
    have f1 := hall 1 _ rfl
    change DataW.trod _ _ _ _ _ _ _ 3 ((cs'.drop 0).take (Tryz.prog.cellsOf 3)) = some x0 at f0
    change DataW.trod _ _ _ _ _ _ _ 9 ((cs'.drop 1).take (Tryz.prog.cellsOf 9)) = some x1 at f1
    rw [hi1] at f0
    rw [hs1] at f1
    obtain ⟨z, hz, hz2, _⟩ := DataW.trod_int Tryz.underlying3 f0
    obtain ⟨s, hs, hs2, _⟩ := DataW.trod_string Tryz.underlying9 f1
    have g0 := h3 0 (by omega)
    have g1 := h3 1 (by omega)
    have c0 := congrArg (·[0]?) hz
    have c1 := congrArg (·[0]?) hs
    simp only [List.getElem?_take, List.getElem?_drop, Nat.add_zero, List.getElem?_cons_zero, Nat.lt_one_iff, if_true] at c0 c1
    rw [c0] at g0
    rw [c1] at g1
    have h5 : (a.add (k * 2)).add 0 = a.add (k * 2) := by simp [Addr.add]
    rw [h5] at g0
    have e0 : z = lcD k := by
      have := hx2.1
      rw [hz2] at this
      simp only [DataW.lit.injEq, Lit.int.injEq, true_and] at this
      exact this
    have e1 : s = lcT k := by
      have := hx2.2
      rw [hs2] at this
      simp only [DataW.lit.injEq, Lit.string.injEq] at this
      unfold lcT
      rw [← this]
    rw [e0] at g0
    rw [e1] at g1
    refine ⟨g0, g1, ?_⟩
    have := World.block_lt_of_cell? w _ g0
    have hb : (a.add (k * 2)).block = a.block := by unfold Addr.add; split <;> rfl
    rw [hb] at this
    exact this
  have h00 := (hk 0 (by omega)).1
  rw [Nat.zero_mul] at h00
  obtain ⟨L, o, rfl⟩ := of_none h00
  refine ⟨L, o, cap, var_lt hg hvar, (hk 0 (by omega)).2.2, ?_, fun k hkk => ?_⟩
  · rw [World.var?_cell hg hvar 0, ← Array.getElem?_toList, hcs, hlen]; rfl
  · obtain ⟨h1, h2, _⟩ := hk k hkk
    rw [add_none] at h1 h2
    rw [add_none] at h2
    exact ⟨h1, h2⟩

def HF (k : Nat) : Nat := (Pinned.pow10Rows.getD k (0, 0)).1
def OF (k : Nat) : Nat := (Pinned.pow10Rows.getD k (0, 0)).2
theorem pow_len : Pinned.pow10Rows.length = 696 := by decide +kernel
theorem tt_of {w : World} (h : VarReads Tryz.prog w "internal/strconv.pow10Tab" Pinned.pow10Tab) : TT w.heap.size (fun k => HF k) (fun k => OF k) w := by
  obtain ⟨g, t, cs, fuel, p, hg, hty, hvar, hd⟩ := h
  obtain rfl := Option.some.inj ((show Tryz.prog.globalNamed "internal/strconv.pow10Tab" = some 10 by kernel_rfl).symm.trans hg)
  obtain rfl := Option.some.inj ((show (Tryz.prog.globals[10]?).map (·.type) = some 182 by kernel_rfl).symm.trans hty)
  have hc2 : Tryz.prog.cellsOf 181 = 2 := by kernel_rfl
  have hu1 : Tryz.prog.cellsOf 34 = 1 := by kernel_rfl
  refine ⟨var_lt hg hvar, fun k hk => ?_⟩
  obtain ⟨fuel', d, q, hdi, he⟩ := array_elem Tryz.underlying182 hd k hk
  have hl : k < Pinned.pow10Rows.length := by rw [pow_len]; exact hk
  rw [List.getElem?_map, List.getElem?_eq_getElem hl] at hdi
  have hd' : d = .agg ([(HF k : Int), (OF k : Int)].map fun z => .lit (.int .u64 z)) := by
    simp only [Option.map_some, Option.some.injEq] at hdi
    rw [← hdi]
    simp [HF, OF, List.getD, hl]
  subst hd'
  rw [hc2] at he
  have hcs := ints_of_struct Tryz.underlying181 (fun j f hj => by
    match j, hj with
    | 0, hj => simp at hj; subst hj; exact ⟨Tryz.underlying34, rfl, hu1⟩
    | 1, hj => simp at hj; subst hj; exact ⟨Tryz.underlying34, rfl, hu1⟩
    | j + 2, hj => simp at hj) (by rw [hc2]; rfl) he
  have e0 := congrArg (·[0]?) hcs
  have e1 := congrArg (·[1]?) hcs
  simp only [List.getElem?_take, List.getElem?_drop] at e0 e1
  constructor
  · rw [World.var?_cell hg hvar (k * 2), ← Array.getElem?_toList]
    simpa using e0
  · rw [World.var?_cell hg hvar (k * 2 + 1), ← Array.getElem?_toList]
    simpa using e1

def infoD (m x b : Int) : DataW Unit := .agg [.lit (.int .u64 m), .lit (.int .u64 x), .lit (.int .i64 b)]
theorem fi_of {w : World} (h : VarReads Tryz.prog w "internal/strconv.float64info" (infoD 52 11 (-1023))) : FI w.heap.size 6 w := by
  obtain ⟨g, t, cs, fuel, p, hg, hty, hvar, hd⟩ := h
  obtain rfl := Option.some.inj ((show Tryz.prog.globalNamed "internal/strconv.float64info" = some 6 by kernel_rfl).symm.trans hg)
  obtain rfl := Option.some.inj ((show (Tryz.prog.globals[6]?).map (·.type) = some 139 by kernel_rfl).symm.trans hty)
  obtain ⟨xs, n', hn', hxs, _, hxl, hall⟩ := DataW.trod_struct Tryz.underlying139 hd
  have hi1 : Tryz.prog.cellsOf 3 = 1 := by kernel_rfl
  have hu1 : Tryz.prog.cellsOf 112 = 1 := by kernel_rfl
  have hx2 : xs.map (·.1) = [.lit (.int .u64 52), .lit (.int .u64 11), .lit (.int .i64 (-1023))] := by
    have := congrArg Prod.fst hxs
    simpa [infoD] using this.symm
  obtain ⟨x0, x1, x2, rfl⟩ : ∃ x0 x1 x2, xs = [x0, x1, x2] := by
    match xs, hx2 with
    | [x0, x1, x2], _ => exact ⟨x0, x1, x2, rfl⟩
  simp only [List.map_cons, List.map_nil, List.cons.injEq, and_true] at hx2
  have f0 := hall 0 _ rfl
  have f1 := hall 1 _ rfl
  have f2 := hall 2 _ rfl
  change DataW.trod _ _ _ _ _ _ _ 112 ((cs.toList.drop 0).take (Tryz.prog.cellsOf 112)) = some x0 at f0
  change DataW.trod _ _ _ _ _ _ _ 112 ((cs.toList.drop 1).take (Tryz.prog.cellsOf 112)) = some x1 at f1
  change DataW.trod _ _ _ _ _ _ _ 3 ((cs.toList.drop 2).take (Tryz.prog.cellsOf 3)) = some x2 at f2
  rw [hu1] at f0 f1
  rw [hi1] at f2
  obtain ⟨z0, hz0, hy0, _⟩ := DataW.trod_int Tryz.underlying112 f0
  obtain ⟨z1, hz1, hy1, _⟩ := DataW.trod_int Tryz.underlying112 f1
  obtain ⟨z2, hz2, hy2, _⟩ := DataW.trod_int Tryz.underlying3 f2
  have c0 := congrArg (·[0]?) hz0
  have c1 := congrArg (·[0]?) hz1
  have c2 := congrArg (·[0]?) hz2
  simp only [List.getElem?_take, List.getElem?_drop, Nat.add_zero, List.getElem?_cons_zero, Nat.lt_one_iff, if_true] at c0 c1 c2
  have e0 := hx2.1; rw [hy0] at e0; simp only [DataW.lit.injEq, Lit.int.injEq, true_and] at e0
  have e1 := hx2.2.1; rw [hy1] at e1; simp only [DataW.lit.injEq, Lit.int.injEq, true_and] at e1
  have e2 := hx2.2.2; rw [hy2] at e2; simp only [DataW.lit.injEq, Lit.int.injEq, true_and] at e2
  subst e0 e1 e2
  refine ⟨var_lt hg hvar, ?_, ?_, ?_⟩
  · rw [World.var?_cell hg hvar 0, ← Array.getElem?_toList]; exact c0
  · rw [World.var?_cell hg hvar 1, ← Array.getElem?_toList]; exact c1
  · rw [World.var?_cell hg hvar 2, ← Array.getElem?_toList]; exact c2

theorem op_of {w : World} (h : VarReads Tryz.prog w "internal/strconv.optimize" (.lit (.bool true))) : 5 < w.heap.size ∧ w.cell? ⟨5, 0, none⟩ = some (.bool true) := by
  obtain ⟨g, t, cs, fuel, p, hg, hty, hvar, hd⟩ := h
  obtain rfl := Option.some.inj ((show Tryz.prog.globalNamed "internal/strconv.optimize" = some 5 by kernel_rfl).symm.trans hg)
  obtain rfl := Option.some.inj ((show (Tryz.prog.globals[5]?).map (·.type) = some 4 by kernel_rfl).symm.trans hty)
  obtain ⟨b, hb, hx⟩ := DataW.trod_bool Tryz.underlying4 hd
  refine ⟨var_lt hg hvar, ?_⟩
  rw [World.var?_cell hg hvar 0, ← Array.getElem?_toList, hb]
  simp only [Prod.mk.injEq, DataW.lit.injEq, Lit.bool.injEq] at hx
  rw [← hx.1]; rfl

/-- A listed variable of cells stands in a block without a frozen part. -/
theorem LaidVars_row {w : World} : ∀ {l : List (String × DataW Unit)} {ps : List MemPlace}, DataW.LaidVars Tryz.prog w l ps → ∀ n d, (n, d) ∈ l → ∃ g t cs fuel p, Tryz.prog.globalNamed n = some g ∧ (Tryz.prog.globals[g]?).map (·.type) = some t ∧ w.var? Tryz.prog n = some cs ∧ DataW.trod (fun _ => ()) Tryz.prog w 0 (fun _ => true) false fuel t cs.toList = some (d, p) ∧ ∀ x ∈ MemPlace.row ⟨g, 0, none⟩ cs.size, x ∈ ps
  | [], _, _, _, _, hm => by cases hm
  | (n', d') :: r, ps, h, n, d, hm => by
    obtain ⟨g, t, cs, fuel, p, q, h1, h2, h3, h4, h5, h6⟩ := h
    rcases List.mem_cons.1 hm with e | e
    · cases e
      exact ⟨g, t, cs, fuel, p, h1, h2, h3, h4, fun x hx => by rw [h6]; exact List.mem_append_left _ (List.mem_append_left _ hx)⟩
    · obtain ⟨g', t', cs', fuel', p', k1, k2, k3, k4, k5⟩ := LaidVars_row h5 n d e
      exact ⟨g', t', cs', fuel', p', k1, k2, k3, k4, fun x hx => by rw [h6]; exact List.mem_append_right _ (k5 x hx)⟩
theorem block_of {w : World} {l : List (String × DataW Unit)} (h : laidMet Tryz.prog l w) {n : String} {d : DataW Unit} (hm : (n, d) ∈ l) {g : Nat} (hg : Tryz.prog.globalNamed n = some g) (hne : ∀ cs : Array Value, cs.size = 0 → ∀ fuel t p, (Tryz.prog.globals[g]?).map (·.type) = some t → DataW.trod (fun _ => ()) Tryz.prog w 0 (fun _ => true) false fuel t cs.toList ≠ some (d, p)) : g < w.heap.size ∧ ∃ c t, w.heap[g]? = some (.cells c t (0, 0)) := by
  obtain ⟨ps, hv, _, hrows⟩ := h
  obtain ⟨g', t, cs, fuel, p, h1, h2, h3, h4, h5⟩ := LaidVars_row hv n d hm
  obtain rfl := Option.some.inj (hg.symm.trans h1)
  have h0 : 0 < cs.size := by
    rcases Nat.eq_zero_or_pos cs.size with h | h
    · exact absurd h4 (hne cs h fuel t p h2)
    · exact h
  have hin : MemPlace.cell g 0 ∈ ps := h5 _ (by
    unfold MemPlace.row
    refine List.mem_map.2 ⟨0, List.mem_range.2 h0, ?_⟩
    simp [Addr.add])
  exact ⟨var_lt hg h3, (hrows g 0 hin).1⟩
theorem info_ne {w : World} {g : Nat} (hg : (Tryz.prog.globals[g]?).map (·.type) = some 139) (d : DataW Unit) : ∀ cs : Array Value, cs.size = 0 → ∀ fuel t p, (Tryz.prog.globals[g]?).map (·.type) = some t → DataW.trod (fun _ => ()) Tryz.prog w 0 (fun _ => true) false fuel t cs.toList ≠ some (d, p) := by
  intro cs hcs fuel t p ht h
  obtain rfl := Option.some.inj (hg.symm.trans ht)
  obtain ⟨xs, n', hn', hxs, hl, _⟩ := DataW.trod_struct Tryz.underlying139 h
  have hc : Tryz.prog.cellsOf 139 = 3 := by kernel_rfl
  rw [hc, Array.length_toList] at hl
  omega
theorem pq_of {w : World} {l : List (String × DataW Unit)} {d64 d32 : DataW Unit} (h : laidMet Tryz.prog l w) (h64 : ("internal/strconv.float64info", d64) ∈ l) (h32 : ("internal/strconv.float32info", d32) ∈ l) : PQ w.heap.size w := by
  have g64 : Tryz.prog.globalNamed "internal/strconv.float64info" = some 6 := by kernel_rfl
  have g32 : Tryz.prog.globalNamed "internal/strconv.float32info" = some 4 := by kernel_rfl
  have t64 : (Tryz.prog.globals[6]?).map (·.type) = some 139 := by kernel_rfl
  have t32 : (Tryz.prog.globals[4]?).map (·.type) = some 139 := by kernel_rfl
  have b64 := block_of h h64 g64 (info_ne t64 d64)
  have b32 := block_of h h32 g32 (info_ne t32 d32)
  exact ⟨b64.1, b32.1, b64.2, b32.2⟩

def EVof (aR aS : Addr) (k : Nat) : Value := if k = 1 then .iface 157 (.pointer (some aR)) else .iface 157 (.pointer (some aS))
theorem errs_of {w : World} {aR aS : Addr} (hR : w.var? Tryz.prog "strconv.ErrRange" = some #[.iface 157 (.pointer (some aR))]) (hS : w.var? Tryz.prog "strconv.ErrSyntax" = some #[.iface 157 (.pointer (some aS))]) : Errs w.heap.size (EVof aR aS) w := by
  have gR : Tryz.prog.globalNamed "strconv.ErrRange" = some 2 := by kernel_rfl
  have gS : Tryz.prog.globalNamed "strconv.ErrSyntax" = some 3 := by kernel_rfl
  refine ⟨⟨var_lt gR hR, ?_⟩, ⟨var_lt gS hS, ?_⟩, fun k => ?_⟩
  · have := World.var?_cell gR hR 0; simpa [EVof] using this
  · have := World.var?_cell gS hS 0; simpa [EVof] using this
  · unfold EVof
    split
    · exact ⟨_, rfl⟩
    · exact ⟨_, rfl⟩
theorem star : "*" ++ "errors.errorString" = "*errors.errorString" := by decide
theorem row_err (u : TypeId) (h : Tryz.prog.typeName? 3 u = some "*errors.errorString") : u = 157 :=
  typeName_ptr_named (nm := "errors.errorString") (by rw [star]; kernel_rfl) (by kernel_rfl) (by decide) u (by rw [star]; exact h)
theorem cells_es : Tryz.prog.cellsOf 159 = 1 := by kernel_rfl
theorem cells_str : Tryz.prog.cellsOf 9 = 1 := by kernel_rfl
/-- Of two listed errors, ErrRange right ahead of ErrSyntax. -/
theorem errs_laid {w : World} {tR tS : List UInt8} {r : List (String × DataW Unit)} (h : laidMet Tryz.prog (("strconv.ErrRange", .iface "*errors.errorString" (.ptr (.agg [.lit (.string tR)]))) :: ("strconv.ErrSyntax", .iface "*errors.errorString" (.ptr (.agg [.lit (.string tS)]))) :: r) w) : ∃ EV, Errs w.heap.size EV w := by
  have gR : Tryz.prog.globalNamed "strconv.ErrRange" = some 2 := by kernel_rfl
  have gS : Tryz.prog.globalNamed "strconv.ErrSyntax" = some 3 := by kernel_rfl
  have tyR : (Tryz.prog.globals[2]?).map (·.type) = some 79 := by kernel_rfl
  have tyS : (Tryz.prog.globals[3]?).map (·.type) = some 79 := by kernel_rfl
  obtain ⟨aR, _, hR, _⟩ := laid_sentinel h gR tyR Tryz.underlying79 row_err Tryz.underlying157 Tryz.underlying159 rfl rfl Tryz.underlying9 cells_es cells_str
  obtain ⟨aS, _, hS, _⟩ := laid_sentinel (laidMet.tail h) gS tyS Tryz.underlying79 row_err Tryz.underlying157 Tryz.underlying159 rfl rfl Tryz.underlying9 cells_es cells_str
  exact ⟨_, errs_of hR hS⟩
end Go.Proofs.YtlkbhmmelejmjaaGreatDoor.FltLaid

/- The two errors of package strconv, from what a row lists of them: where they stand. -/
namespace Go.Proofs.YtlkbhmmelejmjaaGreatDoor.FltLaid2
open Go.RowKit Go.Lib Go.Proofs.YtlkbhmmelejmjaaGreatDoor.FltLaid Go.Proofs.YtlkbhmmelejmjaaGreatDoor.NumErr Go.Proofs.YtlkbhmmelejmjaaGreatDoor.NumIs
set_option linter.unusedVariables false
set_option linter.unusedSimpArgs false

theorem LaidVars_places {w : World} : ∀ {l : List (String × DataW Unit)} {ps : List MemPlace}, DataW.LaidVars Tryz.prog w l ps → ∀ n d, (n, d) ∈ l → ∃ g t cs fuel p, Tryz.prog.globalNamed n = some g ∧ (Tryz.prog.globals[g]?).map (·.type) = some t ∧ w.var? Tryz.prog n = some cs ∧ DataW.trod (fun _ => ()) Tryz.prog w 0 (fun _ => true) false fuel t cs.toList = some (d, p) ∧ (∀ x ∈ MemPlace.row ⟨g, 0, none⟩ cs.size, x ∈ ps) ∧ ∀ x ∈ p, x ∈ ps
  | [], _, _, _, _, hm => by cases hm
  | (n', d') :: r, ps, h, n, d, hm => by
    obtain ⟨g, t, cs, fuel, p, q, h1, h2, h3, h4, h5, h6⟩ := h
    rcases List.mem_cons.1 hm with e | e
    · cases e
      exact ⟨g, t, cs, fuel, p, h1, h2, h3, h4, fun x hx => by rw [h6]; exact List.mem_append_left _ (List.mem_append_left _ hx), fun x hx => by rw [h6]; exact List.mem_append_left _ (List.mem_append_right _ hx)⟩
    · obtain ⟨g', t', cs', fuel', p', k1, k2, k3, k4, k5, k6⟩ := LaidVars_places h5 n d e
      exact ⟨g', t', cs', fuel', p', k1, k2, k3, k4, fun x hx => by rw [h6]; exact List.mem_append_right _ (k5 x hx), fun x hx => by rw [h6]; exact List.mem_append_right _ (k6 x hx)⟩
set_option maxRecDepth 100000 in
theorem error_at {w : World} {l : List (String × DataW Unit)} {n : String} {text : List UInt8} {g : Nat} (h : laidMet Tryz.prog l w) (hm : (n, .iface "*errors.errorString" (.ptr (.agg [.lit (.string text)]))) ∈ l) (hg : Tryz.prog.globalNamed n = some g) (ht : (Tryz.prog.globals[g]?).map (·.type) = some 79) :
    ∃ a c t, w.var? Tryz.prog n = some #[.iface 157 (.pointer (some a))] ∧ a.block < w.heap.size ∧ w.heap[a.block]? = some (.cells c t (0, 0)) := by
  obtain ⟨ps, hv, _, hrows⟩ := h
  obtain ⟨g', t, cs, fuel, p, h1, h2, h3, h4, h5, h6⟩ := LaidVars_places hv n _ hm
  obtain rfl := Option.some.inj (hg.symm.trans h1)
  obtain rfl := Option.some.inj (ht.symm.trans h2)
  obtain ⟨l0⟩ := cs
  have ok0 : ∀ u v, l0 = [.iface u v] → Value.okWide Tryz.prog w .any 0 u v := fun u v e => by
    subst e
    exact (hrows g 0 (h5 _ (by simp [MemPlace.row, Addr.add]))).2 u v (by simpa using World.var?_cell hg h3 0)
  obtain ⟨a, s, rfl, hc, _, _, rfl⟩ := errorString_of_trod Tryz.underlying79 row_err Tryz.underlying157 Tryz.underlying159 rfl rfl Tryz.underlying9 cells_es cells_str h4 ok0
  have hin : MemPlace.cell a.block a.off ∈ ps := h6 _ (by simp [MemPlace.row, Addr.add])
  obtain ⟨c, t, hb⟩ := (hrows a.block a.off hin).1
  exact ⟨a, c, t, h3, (Array.getElem?_eq_some_iff.1 hb).1, hb⟩
set_option maxRecDepth 100000 in
theorem errs_both {w : World} {l : List (String × DataW Unit)} {tR tS : List UInt8} (h : laidMet Tryz.prog l w) (hR : ("strconv.ErrRange", .iface "*errors.errorString" (.ptr (.agg [.lit (.string tR)]))) ∈ l) (hS : ("strconv.ErrSyntax", .iface "*errors.errorString" (.ptr (.agg [.lit (.string tS)]))) ∈ l) : ∃ EV, Errs w.heap.size EV w ∧ ErrB w.heap.size EV w := by
  obtain ⟨aR, cR, tR', vR, lR, bR⟩ := error_at h hR (show Tryz.prog.globalNamed "strconv.ErrRange" = some 2 by kernel_rfl) (by kernel_rfl)
  obtain ⟨aS, cS, tS', vS, lS, bS⟩ := error_at h hS (show Tryz.prog.globalNamed "strconv.ErrSyntax" = some 3 by kernel_rfl) (by kernel_rfl)
  refine ⟨_, errs_of vR vS, ⟨fun k => ?_⟩⟩
  unfold EVof
  split
  · exact ⟨aR, cR, tR', rfl, lR, bR⟩
  · exact ⟨aS, cS, tS', rfl, lS, bS⟩
end Go.Proofs.YtlkbhmmelejmjaaGreatDoor.FltLaid2
