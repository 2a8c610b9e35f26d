/- The law FnIndentBack: what is indented and outdented is the text. For every text and every number, as the row has them. -/
import Derived.Test.YtmildhkegpmacaaTrimWalks
namespace Go.Proofs.Ytmildhkegpmacaa.IndentLaw
open Go.RowKit Go.Proofs.Ytmildhkegpmacaa.PFnIndentBack Go.Proofs.YtmildhkegpmacaaW.PrintWords Go.Proofs.Ytmildhkegpmacaa.IndentPure Go.Proofs.Ytmildhkegpmacaa.IndentWalks Go.Proofs.Ytmildhkegpmacaa.TrimWalks
set_option linter.unusedVariables false
set_option linter.unusedSimpArgs false

theorem bt_at' (s : ByteArray) (i : Nat) (h : i < s.size) : bt s (i : Int) = ((s[i]'h).toNat : Int) := by simp [bt, h]

theorem drop_B (s : ByteArray) (i : Nat) (h : i < s.size) : (B s).drop i = (s[i]'h) :: (B s).drop (i + 1) := by
  have h' : i < (B s).length := by rw [B_length]; exact h
  rw [List.drop_eq_getElem_cons h']
  rfl

/-- Has of one sign. -/
theorem has_one (c : UInt8) (s : ByteArray) (hs : s.size ≤ 2147483647) (d : Nat) : ∀ (k i : Nat), i ≤ s.size → s.size - i = d → 3 * d + 3 < k →
    spec_Has.l0 k s ⟨#[c]⟩ (i : Int) = some (decide (c ∈ (B s).drop i)) := by
  induction d with
  | zero =>
    intro k i h1 h2 h3
    obtain ⟨k, rfl⟩ : ∃ m, k = m + 1 := ⟨k - 1, by omega⟩
    simp only [spec_Has.l0]
    rw [if_neg (by omega), List.drop_eq_nil_of_le (by rw [B_length]; omega)]
    simp
  | succ d ih =>
    intro k i h1 h2 h3
    obtain ⟨k, rfl⟩ : ∃ m, k = m + 3 := ⟨k - 3, by omega⟩
    have hi : i < s.size := by omega
    have e1 : bt (⟨#[c]⟩ : ByteArray) 0 = (c.toNat : Int) := by simp [bt]; rfl
    have e2 : ((⟨#[c]⟩ : ByteArray).size : Int) = 1 := rfl
    have r := ih k (i + 1) (by omega) (by omega) (by omega)
    simp only [spec_Has.l0, spec_Has.l1, e1, e2]
    rw [if_pos (by omega), if_pos (by omega), if_pos (by omega), if_pos (by omega), if_pos (by omega), drop_B s i hi, bt_at' s i hi]
    by_cases hc : s[i]'hi = c
    · rw [if_pos (by rw [hc])]; simp [hc]
    · have hc2 : ¬ ((s[i]'hi).toNat : Int) = (c.toNat : Int) := fun h => hc (UInt8.toNat_inj.1 (by omega))
      rw [if_neg hc2, show wrap64 (0 + 1) = (1 : Int) from by unfold wrap64; omega, if_neg (by omega), show wrap64 ((i : Int) + 1) = ((i + 1 : Nat) : Int) by unfold wrap64; omega, r]
      have : ¬ c = s[i]'hi := fun h => hc h.symm
      simp [this]

theorem has_cr (s : ByteArray) (hs : s.size ≤ 2147483647) : ∃ k, spec_Has.f k s ⟨#[13]⟩ = some (decide ((13 : UInt8) ∈ B s)) :=
  ⟨3 * s.size + 4, by have := has_one 13 s hs s.size (3 * s.size + 4) 0 (by omega) (by omega) (by omega); simpa [spec_Has.f] using this⟩

set_option maxHeartbeats 2000000 in
set_option maxRecDepth 100000 in
theorem law_any (s : ByteArray) (m : Int) (w : World) (hs : s.size ≤ 140737488351232) (hm : (Lit.int .i64 m).wf = true) :
    Calls Try.prog 6 #[.string s, .int .i64 m] w fun e w' => e = .returned (.bool true) ∧ Below w.heap.size w w' := by
  by_cases hbig : 2147483647 < s.size
  · go_enter Try.func6, Try.ntmps6
    go_wp2_with fail
    go_ret
    exact ⟨rfl, Below.refl _ _⟩
  · by_cases hneg : m < 0
    · have hd : decide (m < 0) = true := decide_eq_true hneg
      go_enter Try.func6, Try.ntmps6
      go_wp2_with fail
      go_ret
      exact ⟨rfl, Below.refl _ _⟩
    · by_cases hgt : 200 < m
      · have hd : decide (m < 0) = false := decide_eq_false hneg
        have hd2 : decide (200 < m) = true := decide_eq_true hgt
        go_enter Try.func6, Try.ntmps6
        go_wp2_with fail
        go_ret
        exact ⟨rfl, Below.refl _ _⟩
      · obtain ⟨n, rfl⟩ := Int.eq_ofNat_of_zero_le (show 0 ≤ m by omega)
        have hn : n ≤ 200 := by omega
        obtain ⟨kh, hh⟩ := has_cr s (by omega)
        have HH := Aside0.mk hh
        clear hh hm hneg hgt
        by_cases hcr : (13 : UInt8) ∈ B s
        · have HH2 : Aside0 (spec_Has.f kh s ⟨#[13]⟩ = some true) := ⟨by rw [HH.out]; simp [hcr]⟩
          clear HH hcr
          go_enter Try.func6, Try.ntmps6
          go_wp2_with fail
          refine (spec_Has.calls kh _ _ _ _ HH2.out).mono ?_
          rintro e w1 ⟨rfl, ⟨m1, rfl⟩⟩
          go_wp2_with fail
          go_ret
          exact ⟨rfl, Drawn0.below ⟨⟨m1, rfl⟩⟩⟩
        · have HH2 : Aside0 (spec_Has.f kh s ⟨#[13]⟩ = some false) := ⟨by rw [HH.out]; simp [hcr]⟩
          by_cases hz : n = 0
          · subst hz
            clear HH hcr
            go_enter Try.func6, Try.ntmps6
            go_wp2_with fail
            refine (spec_Has.calls kh _ _ _ _ HH2.out).mono ?_
            rintro e w1 ⟨rfl, ⟨m1, rfl⟩⟩
            go_wp2_with fail
            refine (in_zero s _).mono ?_
            rintro e w2 ⟨rfl, b2⟩
            have B2 := Aside0.mk ((Drawn0.below ⟨⟨m1, rfl⟩⟩ : Below w.heap.size w (w.drewN m1)).trans b2)
            clear b2
            go_wp2_with fail
            refine (out_zero s _).mono ?_
            rintro e w3 ⟨rfl, b3⟩
            have B3 := Aside0.mk (B2.out.trans (b3.mono B2.out.size))
            clear b3
            go_wp2_with fail
            go_ret
            exact ⟨rfl, B3.out⟩
          · have C1 := Aside0.mk fun wx => in_any n s wx (by omega) hn (by omega) hcr
            have hil := indented_length n (B s)
            have hil2 : (n + 1) * (B s).length ≤ 201 * 2147483647 := Nat.mul_le_mul (by omega) (by rw [B_length]; omega)
            have hJ : joined (lines (B s)) = B s := joined_lines (B s)
            have C2 := Aside0.mk fun wx => (show Calls Try.prog 13 #[.string (ba (indented n (B s))), .int .i64 n] wx fun e w' => e = .returned (.string s) ∧ Below wx.heap.size wx w' by
              have h := out_any n (ba (indented n (B s))) (lines (B s)) wx (by omega) hn (by rw [ba_size]; omega) (by rw [B_ba]; exact indented_no_cr n _ hcr) (by rw [B_ba]; exact lines_indented n (B s)) (by rw [hJ, B_length]; omega)
              rw [hJ, ba_B] at h
              exact h)
            clear HH hcr hil hil2 hJ
            obtain ⟨t, ht⟩ : ∃ t, t = ba (indented n (B s)) := ⟨_, rfl⟩
            rw [← ht] at C1 C2
            clear ht
            go_enter Try.func6, Try.ntmps6
            go_wp2_with fail
            refine (spec_Has.calls kh _ _ _ _ HH2.out).mono ?_
            rintro e w1 ⟨rfl, ⟨m1, rfl⟩⟩
            go_wp2_with fail
            refine (C1.out _).mono ?_
            rintro e w2 ⟨rfl, b2⟩
            have B2 := Aside0.mk ((Drawn0.below ⟨⟨m1, rfl⟩⟩ : Below w.heap.size w (w.drewN m1)).trans b2)
            clear b2
            go_wp2_with fail
            refine (C2.out _).mono ?_
            rintro e w3 ⟨rfl, b3⟩
            have B3 := Aside0.mk (B2.out.trans (b3.mono B2.out.size))
            clear b3
            go_wp2_with fail
            go_ret
            exact ⟨rfl, B3.out⟩
end Go.Proofs.Ytmildhkegpmacaa.IndentLaw
