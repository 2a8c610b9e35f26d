/- Parts of the proof of FnNumberRead, one behind the other: FltRight, FltLaw, FltState, FltTextP, FltSetB, FltReadA. Each part says ahead of itself what it proves. -/
import Derived.Test.YtlkbhmmelejmjaaDoorPkFnNumberRead1
import GoSem.PinnedTables
import Derived.BigRegion
import Derived.StillTailTactics

/- The decimal of the slow road: the shift to the right. -/
namespace Go.Proofs.YtlkbhmmelejmjaaDoor.FltRight
open Go.RowKit Go.Proofs.YtlkbhmmelejmjaaDoorW.PrintWords Go.Proofs.YtlkbhmmelejmjaaDoor.NumKnown Go.Proofs.YtlkbhmmelejmjaaDoor.NumPure Go.Proofs.YtlkbhmmelejmjaaDoor.FltDec Go.Proofs.YtlkbhmmelejmjaaDoor.FltPure Go.Proofs.YtlkbhmmelejmjaaDoor.FltLeft
set_option linter.unusedVariables false
set_option linter.unusedSimpArgs false

def RightP (p n k r0 J : Nat) (F : Nat → Int) (dp : Int) (ng tr : Bool) (w : World) (r : Ending) (w' : World) : Prop :=
  r = .returned (.tuple #[]) ∧ ∃ g, Dec w' p g (cut (rdig F n k r0) (min J 800) : Nat) (trimDp (cut (rdig F n k r0) (min J 800)) (dp - (r0 - 1))) ng (tr || lostR F n k r0 J) ∧ (∀ j, j < min J 800 → g j = rdig F n k r0 j) ∧ Below p w w'

set_option maxHeartbeats 8000000 in
set_option maxRecDepth 100000 in
theorem right_walk (p n k r0 J : Nat) (F : Nat → Int) (dp : Int) (ng tr : Bool) (hn : n ≤ 800) (hk : k ≤ 60) (hr1 : 1 ≤ r0) (hrn : r0 ≤ 1000) (hJn : J ≤ 1000000) (hdp0 : -1000000 ≤ dp) (hdp1 : dp ≤ 1000000) (hg : good F n) (hn0 : 0 < val F n) (hp0 : ∀ r, r < r0 → pv F n r < 2 ^ k) (hp1 : 2 ^ k ≤ pv F n r0) (hJ0 : n - r0 ≤ J) (hJ1 : rn F n k (r0 + J) = 0) (hJ2 : ∀ j, n - r0 ≤ j → j < J → rn F n k (r0 + j) ≠ 0) (w : World) (h : Dec w p F n dp ng tr) : Calls Tryd.prog 83 #[.pointer (some ⟨p, 0, none⟩), .int .u64 k] w (RightP p n k r0 J F dp ng tr w) := by
  have H := Aside0.mk h
  have hnd := h.nd
  have HG := Aside0.mk hg
  have HP0 := Aside0.mk hp0
  have HP1 := Aside0.mk hp1
  have HN0 := Aside0.mk hn0
  have HJ := Aside0.mk (And.intro hJ1 hJ2)
  clear h hg hp0 hp1 hn0 hJ1 hJ2
  have hk2 : 2 ^ k ≤ 1152921504606846976 := Nat.le_trans (Nat.pow_le_pow_right (by omega) hk) (by decide)
  have HK2 := Aside0.mk hk2
  clear hk2
  go_enter Tryd.func83, Tryd.ntmps83
  go_upto_block 0 with (fail)
  go_cut [4, 6] (fun v4 v6 wc => v4 = .int .i64 (r0 : Int) ∧ v6 = .int .u64 (pv F n r0 : Nat) ∧ wc = w)
  case first =>
    go_wp2_with fail
    go_loopw [4, 6] (fun v4 v6 wr => ∃ i : Nat, i ≤ r0 ∧ i ≤ n ∧ v4 = .int .i64 (i : Int) ∧ v6 = .int .u64 (pv F n i : Nat) ∧ wr = w) (fun v4 _ _ => r0 - (intOf v4).toNat)
    case atStart => exact ⟨0, Nat.zero_le _, Nat.zero_le _, rfl, by rw [pv_zero]; rfl, rfl⟩
    case round =>
      obtain ⟨i, hi0, hi1, rfl, rfl, rfl⟩ := hrel
      have hnd' := hnd
      have hk2 := HK2.out
      by_cases hlt : pv F n i < 2 ^ k
      · have hi2 : i < r0 := by
          rcases Nat.lt_or_ge i r0 with h | h
          · exact h
          · have := HP1.out
            rw [show r0 = i from by omega] at this
            omega
        have hsh : ((pv F n i : Nat) : Int) / 2 ^ k = 0 := by
          have : ((pv F n i / 2 ^ k : Nat) : Int) = 0 := by rw [Nat.div_eq_of_lt hlt]; rfl
          simpa using this
        by_cases hin : i < n
        · have hcell : wr.cell? ⟨p, i, none⟩ = some (.int .u8 (48 + (dv F i : Int))) := by
            rw [H.out.dig i (by omega), HG.out.dv_eq hin]
          have hd0 := HG.out.dv hin
          have hstep := pv_lt (F := F) hin
          have gi : i < 800 := by omega
          generalize dv F i = d at hcell hd0 hstep
          generalize pv F n i = x at hlt hsh hstep ⊢
          obtain ⟨m, hm⟩ : ∃ m : Nat, m = x * 10 := ⟨_, rfl⟩
          obtain ⟨z, hz⟩ : ∃ z : Nat, z = m + (48 + d) := ⟨_, rfl⟩
          obtain ⟨v, hv⟩ : ∃ v : Nat, v = 10 * x + d := ⟨_, rfl⟩
          have f1 : IntKind.u64.wrap ((x : Int) * 10) = (m : Int) := by rw [IntKind.wrap_u64]; omega
          have f2 : IntKind.u64.wrap ((m : Int) + (48 + (d : Int))) = (z : Int) := by rw [IntKind.wrap_u64]; omega
          have f3 : IntKind.u64.wrap ((z : Int) - 48) = (v : Int) := by rw [IntKind.wrap_u64]; omega
          rw [← hv] at hstep
          have HX := Aside0.mk hstep
          clear hstep hlt hk2 hm hz hv
          go_wp2_with fail
          go_roundw
          case rel =>
            exact ⟨i + 1, by omega, by omega, by go_num, by rw [HX.out], by first | trivial | rfl⟩
          case measure => first | (simp [intOf]; done) | (simp [intOf]; omega)
        · obtain rfl : i = n := by omega
          have hx0 : (((pv F i i : Nat) : Int) == 0) = false := by
            rw [beq_eq_false_iff_ne]
            have : pv F i i = val F i := by unfold pv; rw [if_pos (Nat.le_refl _)]
            rw [this]
            have := HN0.out
            omega
          have hge : ¬ (i : Int) < i := by omega
          clear hlt hk2
          go_wp2_with fail
          go_loopw [4, 6] (fun v4 v6 wx => ∃ y : Nat, i ≤ y ∧ y ≤ r0 ∧ v4 = .int .i64 (y : Int) ∧ v6 = .int .u64 (pv F i y : Nat) ∧ wx = wr) (fun v4 _ _ => r0 - (intOf v4).toNat)
          case atStart => exact ⟨i, Nat.le_refl _, by omega, rfl, rfl, rfl⟩
          case round =>
            clear hsh hx0
            obtain ⟨y, hy0, hy1, rfl, rfl, rfl⟩ := hrel
            have hk2 := HK2.out
            by_cases hlt : pv F i y < 2 ^ k
            · have hi2 : y < r0 := by
                rcases Nat.lt_or_ge y r0 with h | h
                · exact h
                · have := HP1.out
                  rw [show r0 = y from by omega] at this
                  omega
              have hsh : ((pv F i y : Nat) : Int) / 2 ^ k = 0 := by
                have : ((pv F i y / 2 ^ k : Nat) : Int) = 0 := by rw [Nat.div_eq_of_lt hlt]; rfl
                simpa using this
              have hstep := pv_ge (F := F) hy0
              generalize pv F i y = x at hlt hsh hstep ⊢
              obtain ⟨v, hv⟩ : ∃ v : Nat, v = 10 * x := ⟨_, rfl⟩
              have f1 : IntKind.u64.wrap ((x : Int) * 10) = (v : Int) := by rw [IntKind.wrap_u64]; omega
              rw [← hv] at hstep
              have HX := Aside0.mk hstep
              clear hstep hlt hk2 hv
              go_wp2_with fail
              go_roundw
              case rel => exact ⟨y + 1, by omega, by omega, by go_num, by rw [HX.out], by first | trivial | rfl⟩
              case measure => first | (simp [intOf]; done) | (simp [intOf]; omega)
            · obtain rfl : y = r0 := by
                rcases Nat.lt_or_ge y r0 with h | h
                · exact absurd (HP0.out y h) hlt
                · omega
              have hsh : (((pv F i y : Nat) : Int) / 2 ^ k == 0) = false := by
                rw [beq_eq_false_iff_ne]
                have h1 : 0 < pv F i y / 2 ^ k := Nat.div_pos (by omega) (Nat.pow_pos (by omega))
                have h2 : ((pv F i y / 2 ^ k : Nat) : Int) ≠ 0 := by omega
                simpa using h2
              go_wp2_with fail
              go_meet
              case rel => exact ⟨rfl, rfl, rfl⟩
      · obtain rfl : i = r0 := by
          rcases Nat.lt_or_ge i r0 with h | h
          · exact absurd (HP0.out i h) hlt
          · omega
        have hsh : (((pv F n i : Nat) : Int) / 2 ^ k == 0) = false := by
          rw [beq_eq_false_iff_ne]
          have h1 : 0 < pv F n i / 2 ^ k := Nat.div_pos (by omega) (Nat.pow_pos (by omega))
          have h2 : ((pv F n i / 2 ^ k : Nat) : Int) ≠ 0 := by omega
          simpa using h2
        go_wp2_with fail
        go_meet
        case rel => exact ⟨rfl, rfl, rfl⟩
  case rest =>
    obtain ⟨rfl, rfl, rfl⟩ := hcut
    have hdp := H.out.dp
    have hfz := H.out.fz 801
    have a1 : wrap64 ((r0 : Int) - 1) = (r0 : Int) - 1 := by unfold wrap64; omega
    have a2 : wrap64 (dp - ((r0 : Int) - 1)) = dp - ((r0 : Int) - 1) := by unfold wrap64; omega
    go_wp2_with fail
    obtain ⟨M, hM⟩ : ∃ M : Int, M = 2 ^ k - 1 := ⟨_, rfl⟩
    have hmask : IntKind.u64.wrap (IntKind.u64.wrap (2 ^ k) - 1) = M := by
      have e : (2 : Int) ^ k = ((2 ^ k : Nat) : Int) := by simp
      have := HK2.out
      have hp : 0 < 2 ^ k := Nat.pow_pos (by omega)
      rw [hM, e, IntKind.wrap_u64, IntKind.wrap_u64]
      omega
    rw [hmask]
    have hand : ∀ x : Nat, x < 18446744073709551616 → bits .and .u64 (x : Int) M = ((x % 2 ^ k : Nat) : Int) := fun x hx => by
      rw [hM, bits_mask .u64 64 (by decide) (fun n h0 h1 => by rw [IntKind.wrap_u64]; omega) k (by omega) (x : Int) (by omega) (by omega)]
      simp
    have HAND := Aside0.mk hand
    have hpk : 0 < 2 ^ k := Nat.pow_pos (by omega)
    have hstart : pv F n r0 = rn F n k (r0 + 0) := by
      unfold rn
      rw [Nat.add_zero, Nat.mod_eq_of_lt]
      have h1 := HP0.out (r0 - 1) (by omega)
      obtain ⟨r, rfl⟩ : ∃ r, r0 = r + 1 := ⟨r0 - 1, by omega⟩
      rw [Nat.add_sub_cancel] at h1
      by_cases hrn : r < n
      · have := HG.out.dv hrn
        rw [pv_lt hrn]
        omega
      · rw [pv_ge (by omega)]
        omega
    have HP := Aside0.mk hpk
    clear hmask hand hM hpk hdp hfz a1 a2
    go_loopw [4, 5, 6] (fun v4 v5 v6 wr => ∃ j : Nat, j ≤ n - r0 ∧ v4 = .int .i64 ((r0 + j : Nat) : Int) ∧ v5 = .int .i64 (j : Int) ∧ v6 = .int .u64 (rn F n k (r0 + j) : Nat) ∧ Aside0 (∃ g, Dec wr p g n (dp - ((r0 : Int) - 1)) ng tr ∧ (∀ i, j ≤ i → i < n → g i = F i) ∧ (∀ i, i < j → g i = rdig F n k r0 i) ∧ Below p wc wr)) (fun v4 _ _ _ => n - (intOf v4).toNat)
    case atStart =>
      exact ⟨0, Nat.zero_le _, rfl, rfl, by rw [hstart], ⟨F, H.out.setDp _, fun i _ _ => rfl, fun i hi => absurd hi (by omega), Below.setCell (B := p) (Below.refl p wc) (p := ⟨p, 801, none⟩) (Nat.le_refl p) _⟩⟩
    case round =>
      clear hstart hnd
      obtain ⟨j, hj, rfl, rfl, rfl, HL⟩ := hrel
      have hnd' : wr.cell? ⟨p, 800, none⟩ = some (.int .i64 (n : Int)) := by
        obtain ⟨g, h1, h2, h3, h4⟩ := HL.out
        exact h1.nd
      by_cases hin : r0 + j < n
      · have hcell : wr.cell? ⟨p, r0 + j, none⟩ = some (.int .u8 (48 + (dv F (r0 + j) : Int))) := by
          obtain ⟨g, h1, h2, h3, h4⟩ := HL.out
          rw [h1.dig _ (by omega), h2 _ (by omega) hin, HG.out.dv_eq hin]
        have hcj : ∃ z, wr.cell? ⟨p, j, none⟩ = some z := by
          obtain ⟨g, h1, h2, h3, h4⟩ := HL.out
          exact ⟨_, h1.dig j (by omega)⟩
        obtain ⟨zj, hcj⟩ := hcj
        have hfz : ∀ o, wr.frozen? ⟨p, o, none⟩ = false := by
          obtain ⟨g, h1, h2, h3, h4⟩ := HL.out
          exact h1.fz
        have gi : r0 + j < 800 := by omega
        have gj : j < 800 := by omega
        have hd0 := HG.out.dv hin
        have hstep := rn_succ_lt (k := k) HG.out hin
        have hlt := rn_lt F n k (r0 + j)
        have hdiv := rn_div F n k (r0 + j)
        have hk2 := HK2.out
        have hpk := HP.out
        generalize dv F (r0 + j) = d at hcell hd0 hstep
        generalize rn F n k (r0 + j) = x at hstep hlt hdiv ⊢
        have hx64 : x < 18446744073709551616 := by omega
        have f0 := HAND.out x hx64
        have hmlt : x % 2 ^ k < 2 ^ k := Nat.mod_lt _ hpk
        have hq9 : x / 2 ^ k ≤ 9 := by rw [hdiv]; omega
        obtain ⟨m, hm⟩ : ∃ m : Nat, m = x % 2 ^ k := ⟨_, rfl⟩
        obtain ⟨q, hq⟩ : ∃ q : Nat, q = x / 2 ^ k := ⟨_, rfl⟩
        obtain ⟨m10, hm10⟩ : ∃ m10 : Nat, m10 = m * 10 := ⟨_, rfl⟩
        obtain ⟨z, hz⟩ : ∃ z : Nat, z = m10 + (48 + d) := ⟨_, rfl⟩
        obtain ⟨y, hy⟩ : ∃ y : Nat, y = m * 10 + d := ⟨_, rfl⟩
        obtain ⟨v, hv⟩ : ∃ v : Nat, v = 48 + q := ⟨_, rfl⟩
        have hsh : (x : Int) / 2 ^ k = (q : Int) := by
          rw [hq]; simp
        rw [← hm] at f0 hmlt hstep
        rw [← hq] at hq9 hdiv
        rw [← hy] at hstep
        have f1 : IntKind.u64.wrap ((m : Int) * 10) = (m10 : Int) := by rw [IntKind.wrap_u64]; omega
        have f2 : IntKind.u64.wrap ((m10 : Int) + (48 + (d : Int))) = (z : Int) := by rw [IntKind.wrap_u64]; omega
        have f3 : IntKind.u64.wrap ((z : Int) - 48) = (y : Int) := by rw [IntKind.wrap_u64]; omega
        have f4 : IntKind.u64.wrap ((q : Int) + 48) = (v : Int) := by rw [IntKind.wrap_u64]; omega
        have f5 : (v : Int) % 256 = (v : Int) := by omega
        have HX := Aside0.mk hstep
        have HD := Aside0.mk hdiv
        have HV := Aside0.mk hv
        clear hstep hlt hk2 hm hz hv hq hm10 hy hdiv hx64 hpk hmlt
        go_wp2_with fail
        go_roundw
        case rel =>
          obtain ⟨g, h1, h2, h3, h4⟩ := HL.out
          refine ⟨j + 1, by omega, by go_num, by go_num, by rw [← Nat.add_assoc, HX.out], ⟨upd g j v, h1.setD j gj _, fun i hi1 hi2 => ?_, fun i hi => ?_, h4.setCell (Nat.le_refl _) _⟩⟩
          · unfold upd
            rw [if_neg (by omega)]
            exact h2 i (by omega) hi2
          · unfold upd
            by_cases e : i = j
            · rw [if_pos e, e]
              unfold rdig
              rw [← HD.out, HV.out]
              rfl
            · rw [if_neg e]
              exact h3 i (by omega)
        case measure => first | (simp [intOf]; done) | (simp [intOf]; omega)
      · have hjn : j = n - r0 := by omega
        have gge : n ≤ r0 + j := by omega
        go_wp2_with fail
        subst hjn
        go_loopg [5, 6] (J - (n - r0)) (fun kq v5 v6 wx => ∃ y : Nat, y + kq = J ∧ n - r0 ≤ y ∧ v5 = .int .i64 ((min y 800 : Nat) : Int) ∧ v6 = .int .u64 (rn F n k (r0 + y) : Nat) ∧ Aside0 (∃ g, Dec wx p g n (dp - ((r0 : Int) - 1)) ng (tr || lostR F n k r0 y) ∧ (∀ i, i < min y 800 → g i = rdig F n k r0 i) ∧ Below p wc wx))
        case atStart =>
          obtain ⟨g, h1, h2, h3, h4⟩ := HL.out
          refine ⟨n - r0, by omega, Nat.le_refl _, by rw [show min (n - r0) 800 = n - r0 from by omega], rfl, ⟨g, ?_, fun i hi => h3 i (by omega), h4⟩⟩
          rw [lostR_low _ _ _ _ _ (by omega), Bool.or_false]
          exact h1
        case round =>
          clear HL hnd' gge
          obtain ⟨y, hy0, hy1, rfl, rfl, HL⟩ := hrel
          have hfz : ∀ o, wr.frozen? ⟨p, o, none⟩ = false := by
            obtain ⟨g, h1, h2, h3⟩ := HL.out
            exact h1.fz
          obtain ⟨W, hW⟩ : ∃ W : Nat, W = min y 800 := ⟨_, rfl⟩
          rw [← hW]
          have hW8 : W ≤ 800 := by omega
          cases gk with
          | zero =>
            have hyJ : y = J := by omega
            subst hyJ
            rw [HJ.out.1]
            have hc8 : ∃ z, wr.cell? ⟨p, 800, none⟩ = some z := by
              obtain ⟨g, h1, h2, h3⟩ := HL.out
              exact ⟨_, h1.nd⟩
            obtain ⟨z8, hc8⟩ := hc8
            have HW0 := Aside0.mk hW
            clear hW
            go_wp2_with fail
            have hW := HW0.out
            obtain ⟨g, h1, h2, h3⟩ := HL.out
            have h4 := h1.setNd (W : Int)
            refine (trim_walk p g W (dp - ((r0 : Int) - 1)) ng _ hW8 _ h4).mono ?_
            rintro r w2 ⟨rfl, hD2, hB2⟩
            go_wp2_with fail
            go_end0
            have hg : ∀ j, j < W → g j = rdig F n k r0 j := fun j hj => h2 j (by omega)
            refine ⟨rfl, g, ?_, by rw [← hW]; exact hg, (Below.setCell (B := p) h3 (p := ⟨p, 800, none⟩) (Nat.le_refl p) _).trans hB2⟩
            rw [← hW, ← cut_congr hg]
            exact hD2
          | succ k1 =>
            have hne := HJ.out.2 y hy1 (by omega)
            have hstep := rn_succ_ge (F := F) (k := k) (nd := n) (r := r0 + y) (by omega)
            have hlt := rn_lt F n k (r0 + y)
            have hdiv := rn_div F n k (r0 + y)
            have hk2 := HK2.out
            have hpk := HP.out
            have hlost := lostR_succ F n k r0 y
            generalize rn F n k (r0 + y) = x at hstep hlt hdiv hne hlost ⊢
            have hx64 : x < 18446744073709551616 := by omega
            have f0 := HAND.out x hx64
            have hmlt : x % 2 ^ k < 2 ^ k := Nat.mod_lt _ hpk
            have hq9 : x / 2 ^ k ≤ 9 := by rw [hdiv]; omega
            have gx : 0 < x := by omega
            obtain ⟨m, hm⟩ : ∃ m : Nat, m = x % 2 ^ k := ⟨_, rfl⟩
            obtain ⟨q, hq⟩ : ∃ q : Nat, q = x / 2 ^ k := ⟨_, rfl⟩
            obtain ⟨m10, hm10⟩ : ∃ m10 : Nat, m10 = m * 10 := ⟨_, rfl⟩
            obtain ⟨v, hv⟩ : ∃ v : Nat, v = 48 + q := ⟨_, rfl⟩
            have hsh : (x : Int) / 2 ^ k = (q : Int) := by
              rw [hq]; simp
            rw [← hm] at f0 hmlt hstep
            rw [← hq] at hq9 hdiv hlost
            rw [← hm10] at hstep
            have f1 : IntKind.u64.wrap ((m : Int) * 10) = (m10 : Int) := by rw [IntKind.wrap_u64]; omega
            have f4 : IntKind.u64.wrap ((q : Int) + 48) = (v : Int) := by rw [IntKind.wrap_u64]; omega
            have f5 : (v : Int) % 256 = (v : Int) := by omega
            have HX := Aside0.mk hstep
            have HD := Aside0.mk hdiv
            have HV := Aside0.mk hv
            have HLS := Aside0.mk hlost
            have HWW := Aside0.mk hW
            clear hstep hlt hk2 hm hv hq hm10 hdiv hx64 hpk hmlt hlost hne
            by_cases gw : W < 800
            · have hcw : ∃ z, wr.cell? ⟨p, W, none⟩ = some z := by
                obtain ⟨g, h1, h2, h3⟩ := HL.out
                exact ⟨_, h1.dig W gw⟩
              obtain ⟨zw, hcw⟩ := hcw
              have HWy := Aside0.mk (show W = y by omega)
              clear hW
              go_wp2_with fail
              go_roundg k1
              case measure => omega
              case rel =>
                have hWy := HWy.out
                obtain ⟨g, h1, h2, h3⟩ := HL.out
                refine ⟨y + 1, by omega, by omega, by go_num, by rw [← Nat.add_assoc, HX.out], ⟨upd g W v, ?_, fun i hi => ?_, Below.setCell (B := p) h3 (p := ⟨p, W, none⟩) (Nat.le_refl p) _⟩⟩
                · rw [HLS.out, show decide (800 ≤ y) = false from decide_eq_false (by omega), Bool.false_and, Bool.or_false]
                  exact h1.setD W gw _
                · unfold upd
                  by_cases e : i = W
                  · rw [if_pos e, e, hWy]
                    unfold rdig
                    rw [← HD.out, HV.out]
                    rfl
                  · rw [if_neg e]
                    exact h2 i (by omega)
            · have hc3 : ∃ z, wr.cell? ⟨p, 803, none⟩ = some z := by
                obtain ⟨g, h1, h2, h3⟩ := HL.out
                exact ⟨_, h1.tr⟩
              obtain ⟨z3, hc3⟩ := hc3
              have HY8 := Aside0.mk (show 800 ≤ y ∧ W = 800 by omega)
              have gw' : 800 ≤ W := by omega
              clear hW gw
              by_cases hq0 : q = 0
              · subst hq0
                go_wp2_with fail
                go_roundg k1
                case measure => omega
                case rel =>
                  obtain ⟨hy8, hW800⟩ := HY8.out
                  obtain ⟨g, h1, h2, h3⟩ := HL.out
                  refine ⟨y + 1, by omega, by omega, by go_num, by rw [← Nat.add_assoc, HX.out], ⟨g, ?_, fun i hi => h2 i (by omega), h3⟩⟩
                  rw [HLS.out, show decide ((0 : Nat) ≠ 0) = false from by decide, Bool.and_false, Bool.or_false]
                  exact h1
              · have gq : 0 < q := by omega
                go_wp2_with fail
                go_roundg k1
                case measure => omega
                case rel =>
                  obtain ⟨hy8, hW800⟩ := HY8.out
                  obtain ⟨g, h1, h2, h3⟩ := HL.out
                  refine ⟨y + 1, by omega, by omega, by go_num, by rw [← Nat.add_assoc, HX.out], ⟨g, ?_, fun i hi => h2 i (by omega), Below.setCell (B := p) h3 (p := ⟨p, 803, none⟩) (Nat.le_refl p) _⟩⟩
                  rw [HLS.out, show decide (800 ≤ y) = true from decide_eq_true hy8, show decide (q ≠ 0) = true from decide_eq_true hq0]
                  simp only [Bool.and_self, Bool.or_true]
                  exact h1.setTr true
end Go.Proofs.YtlkbhmmelejmjaaDoor.FltRight

/- The decimal of the slow road: what the shifts make of a good one (plain). -/
namespace Go.Proofs.YtlkbhmmelejmjaaDoor.FltLaw
open Go.RowKit Go.Proofs.YtlkbhmmelejmjaaDoorW.PrintWords Go.Proofs.YtlkbhmmelejmjaaDoor.NumKnown Go.Proofs.YtlkbhmmelejmjaaDoor.NumPure Go.Proofs.YtlkbhmmelejmjaaDoor.FltDec Go.Proofs.YtlkbhmmelejmjaaDoor.FltPure Go.Proofs.YtlkbhmmelejmjaaDoor.FltLeft Go.Proofs.YtlkbhmmelejmjaaDoor.FltRight
set_option linter.unusedVariables false
set_option linter.unusedSimpArgs false

/-- The digits from place i on, m of them, with zeros behind the last. -/
def pd (F : Nat → Int) (n i : Nat) : Nat := if i < n then dv F i else 0
def sv (F : Nat → Int) (n : Nat) : Nat → Nat → Nat
  | _, 0 => 0
  | i, m + 1 => pd F n i * 10 ^ m + sv F n (i + 1) m
theorem pd_le {F : Nat → Int} {n i : Nat} (h : good F n) : pd F n i ≤ 9 := by
  unfold pd
  split
  · exact h.dv (by assumption)
  · omega
theorem sv_lt {F : Nat → Int} {n : Nat} (h : good F n) : ∀ m i, sv F n i m < 10 ^ m
  | 0, i => by simp [sv]
  | m + 1, i => by
    have h1 := sv_lt h m (i + 1)
    have h2 := pd_le (i := i) h
    simp only [sv, Nat.pow_succ]
    have : pd F n i * 10 ^ m ≤ 9 * 10 ^ m := Nat.mul_le_mul_right _ h2
    omega
theorem sv_zero {F : Nat → Int} {n : Nat} : ∀ m i, n ≤ i → sv F n i m = 0
  | 0, i, _ => rfl
  | m + 1, i, h => by
    simp only [sv]
    rw [sv_zero m (i + 1) (by omega)]
    unfold pd
    rw [if_neg (by omega)]
    omega
/-- The number that a text of digits is. -/
def tv : List UInt8 → Nat
  | [] => 0
  | c :: r => (c.toNat - 48) * 10 ^ r.length + tv r
/-- Digits alone, the last none of 0. -/
def tgood : List UInt8 → Bool
  | [] => true
  | [c] => decide (49 ≤ c.toNat) && decide (c.toNat ≤ 57)
  | c :: r => decide (48 ≤ c.toNat) && decide (c.toNat ≤ 57) && tgood r
theorem tgood_head {c : UInt8} {r : List UInt8} (h : tgood (c :: r) = true) : 48 ≤ c.toNat ∧ c.toNat ≤ 57 ∧ tgood r = true := by
  cases r with
  | nil =>
    simp only [tgood, Bool.and_eq_true, decide_eq_true_eq] at h
    exact ⟨by omega, h.2, rfl⟩
  | cons d r =>
    unfold tgood at h
    rw [Bool.and_eq_true, Bool.and_eq_true, decide_eq_true_eq, decide_eq_true_eq] at h
    exact ⟨h.1.1, h.1.2, h.2⟩
theorem tgood_pos : ∀ {c : UInt8} {r : List UInt8}, tgood (c :: r) = true → 0 < tv (c :: r)
  | c, [], h => by
    simp only [tgood, Bool.and_eq_true, decide_eq_true_eq] at h
    simp only [tv, List.length_nil, Nat.pow_zero]
    omega
  | c, d :: r, h => by
    have h1 := (tgood_head h).2.2
    have h2 := tgood_pos h1
    rw [tv]
    omega
theorem pl_eq {F : Nat → Int} {n : Nat} (hg : good F n) : ∀ (l : List UInt8) (i : Nat), tgood l = true → pl F n i l = decide (sv F n i l.length < tv l)
  | [], i, _ => by simp [pl, sv, tv]
  | c :: r, i, h => by
    have hp := tgood_pos h
    obtain ⟨h0, h1, h2⟩ := tgood_head h
    rw [pl_cons]
    by_cases hin : n ≤ i
    · rw [if_pos hin, sv_zero _ _ hin]
      simp [hp]
    · rw [if_neg hin]
      have hd := hg.dv_eq (i := i) (by omega)
      have hd9 := hg.dv (i := i) (by omega)
      have hs := sv_lt hg r.length (i + 1)
      have e1 : sv F n i (c :: r).length = dv F i * 10 ^ r.length + sv F n (i + 1) r.length := by
        rw [List.length_cons]
        simp only [sv]
        unfold pd
        rw [if_pos (by omega)]
      rw [e1]
      have hT : tv (c :: r) = (c.toNat - 48) * 10 ^ r.length + tv r := rfl
      generalize tv (c :: r) = T at hT hp
      by_cases he : F i = (c.toNat : Int)
      · rw [if_pos he, pl_eq hg r (i + 1) h2]
        have : c.toNat - 48 = dv F i := by omega
        apply Bool.eq_iff_iff.2
        rw [decide_eq_true_iff, decide_eq_true_iff, hT, this, Nat.add_lt_add_iff_left]
      · rw [if_neg he]
        by_cases hlt : F i < (c.toNat : Int)
        · rw [decide_eq_true hlt]
          symm
          apply decide_eq_true
          have : (dv F i + 1) * 10 ^ r.length ≤ (c.toNat - 48) * 10 ^ r.length := Nat.mul_le_mul_right _ (by omega)
          rw [Nat.add_mul] at this
          omega
        · rw [decide_eq_false hlt]
          symm
          apply decide_eq_false
          have : (c.toNat - 48 + 1) * 10 ^ r.length ≤ dv F i * 10 ^ r.length := Nat.mul_le_mul_right _ (by omega)
          rw [Nat.add_mul] at this
          have htv : ∀ l : List UInt8, tgood l = true → tv l < 10 ^ l.length := by
            intro l
            induction l with
            | nil => simp [tv]
            | cons d l ih =>
              intro hh
              obtain ⟨q0, q1, q2⟩ := tgood_head hh
              have := ih q2
              rw [tv, List.length_cons, Nat.pow_succ]
              have h9 : (d.toNat - 48) * 10 ^ l.length ≤ 9 * 10 ^ l.length := Nat.mul_le_mul_right _ (by omega)
              omega
          have := htv r h2
          omega

/-- The first m digits and the number of all. -/
theorem sv_val {F : Nat → Int} {n : Nat} (hg : good F n) : ∀ m, sv F n 0 m = pv F n m := by
  have key : ∀ m i, pv F n (i + m) = pv F n i * 10 ^ m + sv F n i m := by
    intro m
    induction m with
    | zero => intro i; simp [sv]
    | succ m ih =>
      intro i
      rw [show i + (m + 1) = (i + 1) + m from by omega, ih (i + 1)]
      simp only [sv, Nat.pow_succ]
      unfold pd
      by_cases h : i < n
      · rw [if_pos h, pv_lt h, Nat.add_mul, Nat.mul_comm 10, Nat.mul_assoc, Nat.mul_comm 10]
        omega
      · rw [if_neg h, pv_ge (by omega), Nat.mul_comm 10, Nat.mul_assoc, Nat.mul_comm 10]
        omega
  intro m
  have := key m 0
  rw [pv_zero, Nat.zero_add] at this
  omega
theorem pv_val {F : Nat → Int} {n : Nat} (hg : good F n) (m : Nat) : pv F n m * 10 ^ n ≤ val F n * 10 ^ m ∧ val F n * 10 ^ m < (pv F n m + 1) * 10 ^ n := by
  unfold pv
  by_cases h : m ≤ n
  · rw [if_pos h]
    have key : ∀ d m, good F (m + d) → val F m * 10 ^ d ≤ val F (m + d) ∧ val F (m + d) < (val F m + 1) * 10 ^ d := by
      intro d
      induction d with
      | zero => intro m _; simp
      | succ d ih =>
        intro m hgm
        obtain ⟨h1, h2⟩ := ih m (hgm.mono (by omega))
        have h3 := hgm.dv (i := m + d) (by omega)
        rw [show m + (d + 1) = (m + d) + 1 from by omega]
        simp only [val]
        rw [Nat.pow_succ, ← Nat.mul_assoc, ← Nat.mul_assoc]
        omega
    obtain ⟨d, rfl⟩ : ∃ d, n = m + d := ⟨n - m, by omega⟩
    obtain ⟨h1, h2⟩ := key d m hg
    rw [Nat.pow_add, Nat.mul_comm (10 ^ m), ← Nat.mul_assoc, ← Nat.mul_assoc]
    exact ⟨Nat.mul_le_mul_right _ h1, Nat.mul_lt_mul_of_pos_right h2 (Nat.pow_pos (by omega))⟩
  · rw [if_neg h]
    obtain ⟨d, rfl⟩ : ∃ d, m = n + d := ⟨m - n, by omega⟩
    rw [Nat.add_sub_cancel_left, Nat.pow_add, Nat.mul_comm (10 ^ n), ← Nat.mul_assoc]
    exact ⟨Nat.le_refl _, Nat.mul_lt_mul_of_pos_right (Nat.lt_succ_self _) (Nat.pow_pos (by omega))⟩

theorem val_low {F : Nat → Int} {n : Nat} (hg : good F n) (hn : 1 ≤ n) (h0 : F 0 ≠ 48) : 10 ^ n ≤ 10 * val F n := by
  have h1 := hg.dv_eq (i := 0) (by omega)
  have hd : 1 ≤ dv F 0 := by omega
  have h2 := (pv_val hg 1).1
  have h3 : pv F n 1 = dv F 0 := by rw [pv_lt (by omega), pv_zero]; omega
  rw [h3] at h2
  have : 1 * 10 ^ n ≤ dv F 0 * 10 ^ n := Nat.mul_le_mul_right _ hd
  omega

/-- What the shift to the left makes of the number, by the table's two cells. -/
theorem left_law {F : Nat → Int} {n k L d : Nat} (hg : good F n) (hn : 1 ≤ n) (h0 : F 0 ≠ 48) (l : List UInt8) (hl : l.length = L) (ht : tgood l = true) (h5 : tv l = 5 ^ k) (hL : L ≤ k) (hd : d = k - L + 1) (hlo : 10 ^ L ≤ 10 * 5 ^ k) (hhi : 5 ^ k < 10 ^ L) :
    ∃ e, d = e + (if pl F n 0 l then 1 else 0) ∧ val F n * 2 ^ k < 10 ^ (n + e) ∧ 10 ^ (n + e) ≤ 10 * (val F n * 2 ^ k) := by
  rw [pl_eq hg l 0 ht, hl, h5, sv_val hg]
  obtain ⟨v1, v2⟩ := pv_val hg L
  have vhi := val_lt hg
  have vlo := val_low hg hn h0
  have e25 : 5 ^ k * 2 ^ k = 10 ^ k := by rw [← Nat.mul_pow]
  have hLp : 0 < 10 ^ L := Nat.pow_pos (by omega)
  have h2p : 0 < 2 ^ k := Nat.pow_pos (by omega)
  have h5p : 0 < 5 ^ k := Nat.pow_pos (by omega)
  obtain ⟨q, rfl⟩ : ∃ q, k = L + q := ⟨k - L, by omega⟩
  rw [Nat.add_sub_cancel_left] at hd
  by_cases hc : pv F n L < 5 ^ (L + q)
  · refine ⟨q, by rw [if_pos (by simpa using hc)]; exact hd, ?_, ?_⟩
    · have h1 : val F n * 10 ^ L < 5 ^ (L + q) * 10 ^ n := Nat.lt_of_lt_of_le v2 (Nat.mul_le_mul_right _ hc)
      have h2 : val F n * 10 ^ L * 2 ^ (L + q) < 5 ^ (L + q) * 10 ^ n * 2 ^ (L + q) := Nat.mul_lt_mul_of_pos_right h1 h2p
      have h3 : 5 ^ (L + q) * 10 ^ n * 2 ^ (L + q) = 10 ^ (n + q) * 10 ^ L := by
        rw [Nat.mul_assoc, Nat.mul_comm (10 ^ n), ← Nat.mul_assoc, e25, ← Nat.pow_add, ← Nat.pow_add]
        congr 1; omega
      have h4 : val F n * 10 ^ L * 2 ^ (L + q) = val F n * 2 ^ (L + q) * 10 ^ L := by rw [Nat.mul_assoc, Nat.mul_comm (10 ^ L), ← Nat.mul_assoc]
      rw [h3, h4] at h2
      exact Nat.lt_of_mul_lt_mul_right h2
    · have h1 : 10 ^ q ≤ 2 ^ (L + q) := by
        have : 10 ^ q * 10 ^ L ≤ 2 ^ (L + q) * 10 ^ L := by
          rw [← Nat.pow_add, Nat.add_comm q L, ← e25, Nat.mul_comm]
          exact Nat.mul_le_mul_left _ (Nat.le_of_lt hhi)
        exact Nat.le_of_mul_le_mul_right this hLp
      rw [Nat.pow_add 10 n q, ← Nat.mul_assoc]
      exact Nat.mul_le_mul vlo h1
  · refine ⟨q + 1, by rw [if_neg (by simpa using hc)]; omega, ?_, ?_⟩
    · have h1 : 2 ^ (L + q) ≤ 10 ^ (q + 1) := by
        have : 2 ^ (L + q) * 10 ^ L ≤ 10 ^ (q + 1) * 10 ^ L := by
          calc 2 ^ (L + q) * 10 ^ L ≤ 2 ^ (L + q) * (10 * 5 ^ (L + q)) := Nat.mul_le_mul_left _ hlo
            _ = 10 * (5 ^ (L + q) * 2 ^ (L + q)) := by rw [Nat.mul_comm, Nat.mul_assoc]
            _ = 10 ^ (q + 1) * 10 ^ L := by rw [e25, ← Nat.pow_add, Nat.mul_comm, ← Nat.pow_succ]; congr 1; omega
        exact Nat.le_of_mul_le_mul_right this hLp
      rw [Nat.pow_add 10 n (q + 1)]
      exact Nat.lt_of_lt_of_le (Nat.mul_lt_mul_of_pos_right vhi h2p) (Nat.mul_le_mul_left _ h1)
    · have h1 : 5 ^ (L + q) * 10 ^ n ≤ val F n * 10 ^ L := Nat.le_trans (Nat.mul_le_mul_right _ (by omega)) v1
      have h2 : 5 ^ (L + q) * 10 ^ n * 2 ^ (L + q) ≤ val F n * 10 ^ L * 2 ^ (L + q) := Nat.mul_le_mul_right _ h1
      have h3 : 5 ^ (L + q) * 10 ^ n * 2 ^ (L + q) = 10 ^ (n + q) * 10 ^ L := by
        rw [Nat.mul_assoc, Nat.mul_comm (10 ^ n), ← Nat.mul_assoc, e25, ← Nat.pow_add, ← Nat.pow_add]
        congr 1; omega
      have h4 : val F n * 10 ^ L * 2 ^ (L + q) = val F n * 2 ^ (L + q) * 10 ^ L := by rw [Nat.mul_assoc, Nat.mul_comm (10 ^ L), ← Nat.mul_assoc]
      rw [h3, h4] at h2
      have h5' := Nat.le_of_mul_le_mul_right h2 hLp
      rw [← Nat.add_assoc, Nat.pow_succ, Nat.mul_comm]
      exact Nat.mul_le_mul_left _ h5'
end Go.Proofs.YtlkbhmmelejmjaaDoor.FltLaw

/- The decimal of the slow road: its state, and the two shifts as functions of it. -/
namespace Go.Proofs.YtlkbhmmelejmjaaDoor.FltState
open Go.RowKit Go.Proofs.YtlkbhmmelejmjaaDoorW.PrintWords Go.Proofs.YtlkbhmmelejmjaaDoor.NumKnown Go.Proofs.YtlkbhmmelejmjaaDoor.NumPure Go.Proofs.YtlkbhmmelejmjaaDoor.FltDec Go.Proofs.YtlkbhmmelejmjaaDoor.FltPure Go.Proofs.YtlkbhmmelejmjaaDoor.FltLeft Go.Proofs.YtlkbhmmelejmjaaDoor.FltRight Go.Proofs.YtlkbhmmelejmjaaDoor.FltLaw
set_option linter.unusedVariables false
set_option linter.unusedSimpArgs false

structure St where
  F : Nat → Int
  n : Nat
  dp : Int
  tr : Bool
structure St.Good (s : St) : Prop where
  one : 1 ≤ s.n
  most : s.n ≤ 800
  dig : good s.F s.n
  head : s.F 0 ≠ 48
def St.At (s : St) (p : Nat) (ng : Bool) (w : World) : Prop := ∃ g, Dec w p g s.n s.dp ng s.tr ∧ ∀ j, j < s.n → g j = s.F j

/-- The table's cells. -/
def lcD (k : Nat) : Nat := (Pinned.cheatRows.getD k (0, [])).1
def lcL (k : Nat) : List UInt8 := (Pinned.cheatRows.getD k (0, [])).2
def lcT (k : Nat) : ByteArray := ⟨(lcL k).toArray⟩
def lcOk (k : Nat) : Bool := tgood (lcL k) && decide (tv (lcL k) = 5 ^ k) && decide ((lcL k).length ≤ k) && decide (lcD k = k - (lcL k).length + 1) && decide (10 ^ (lcL k).length ≤ 10 * 5 ^ k) && decide (5 ^ k < 10 ^ (lcL k).length) && decide ((lcL k).length ≤ 1000) && decide (lcD k ≤ 20)
theorem lc_all : ((List.range 60).all fun i => lcOk (i + 1)) = true := by decide +kernel
theorem lc_at (k : Nat) (h1 : 1 ≤ k) (h2 : k ≤ 60) : lcOk k = true := by
  have := List.all_eq_true.1 lc_all (k - 1) (by simp; omega)
  rwa [show k - 1 + 1 = k from by omega] at this

/-- The first place from i on that a test takes. -/
def least (P : Nat → Bool) : Nat → Nat → Nat
  | 0, i => i
  | f + 1, i => if P i = true then i else least P f (i + 1)
theorem least_le (P : Nat → Bool) : ∀ f i j, i ≤ j → j ≤ i + f → P j = true → least P f i ≤ j
  | 0, i, j, h1, h2, _ => h1
  | f + 1, i, j, h1, h2, h3 => by
    unfold least
    split
    · exact h1
    · next h =>
      have : i ≠ j := fun e => h (e ▸ h3)
      exact least_le P f (i + 1) j (by omega) (by omega) h3
theorem least_ge (P : Nat → Bool) : ∀ f i, i ≤ least P f i
  | 0, i => Nat.le_refl _
  | f + 1, i => by
    unfold least
    split
    · exact Nat.le_refl _
    · exact Nat.le_trans (Nat.le_succ i) (least_ge P f (i + 1))
theorem least_is (P : Nat → Bool) : ∀ f i j, i ≤ j → j ≤ i + f → P j = true → P (least P f i) = true
  | 0, i, j, h1, h2, h3 => by
    obtain rfl : i = j := by omega
    exact h3
  | f + 1, i, j, h1, h2, h3 => by
    unfold least
    split
    · assumption
    · next h =>
      have : i ≠ j := fun e => h (e ▸ h3)
      exact least_is P f (i + 1) j (by omega) (by omega) h3
theorem least_not (P : Nat → Bool) : ∀ f i j, i ≤ j → j < least P f i → P j = false
  | 0, i, j, h1, h2 => absurd h2 (by unfold least; omega)
  | f + 1, i, j, h1, h2 => by
    unfold least at h2
    split at h2
    · omega
    · next h =>
      by_cases e : i = j
      · subst e; simpa using h
      · exact least_not P f (i + 1) j (by omega) h2

theorem val_congr {F G : Nat → Int} : ∀ {n : Nat}, (∀ j, j < n → F j = G j) → val F n = val G n
  | 0, _ => rfl
  | n + 1, h => by
    simp only [val]
    rw [val_congr (n := n) (fun j hj => h j (by omega))]
    unfold dv
    rw [h n (by omega)]
theorem pl_congr {F G : Nat → Int} {n : Nat} (h : ∀ j, j < n → F j = G j) : ∀ (l : List UInt8) (i : Nat), pl F n i l = pl G n i l
  | [], _ => rfl
  | c :: r, i => by
    rw [pl_cons, pl_cons]
    by_cases hin : n ≤ i
    · rw [if_pos hin, if_pos hin]
    · rw [if_neg hin, if_neg hin, h i (by omega), pl_congr h r (i + 1)]
theorem pv_congr {F G : Nat → Int} {n : Nat} (h : ∀ j, j < n → F j = G j) (r : Nat) : pv F n r = pv G n r := by
  unfold pv
  by_cases hr : r ≤ n
  · rw [if_pos hr, if_pos hr, val_congr (fun j hj => h j (by omega))]
  · rw [if_neg hr, if_neg hr, val_congr h]
theorem rdig_congr {F G : Nat → Int} {n : Nat} (h : ∀ j, j < n → F j = G j) (k r0 : Nat) : rdig F n k r0 = rdig G n k r0 := by
  funext j
  unfold rdig
  rw [pv_congr h]
theorem rn_congr {F G : Nat → Int} {n : Nat} (h : ∀ j, j < n → F j = G j) (k r : Nat) : rn F n k r = rn G n k r := by
  unfold rn
  rw [pv_congr h]
theorem lostR_congr {F G : Nat → Int} {n : Nat} (h : ∀ j, j < n → F j = G j) (k r0 : Nat) : ∀ j, lostR F n k r0 j = lostR G n k r0 j
  | 0 => rfl
  | j + 1 => by rw [lostR_succ, lostR_succ, lostR_congr h k r0 j, rn_congr h]
theorem good_congr {F G : Nat → Int} {n : Nat} (h : ∀ j, j < n → F j = G j) (hg : good G n) : good F n := fun i hi => by rw [h i hi]; exact hg i hi

/-- The shift to the left. -/
def le (k : Nat) (s : St) : Nat := lcD k - (if pl s.F s.n 0 (lcL k) then 1 else 0)
def lX (k : Nat) (s : St) : Nat := val s.F s.n * 2 ^ k
def ls (k : Nat) (s : St) : St := ⟨dig (s.n + le k s) (lX k s), cut (dig (s.n + le k s) (lX k s)) (min (s.n + le k s) 800), s.dp + le k s, s.tr || lost (s.n + le k s) (lX k s) (s.n + le k s)⟩
theorem le_law {s : St} (hs : s.Good) {k : Nat} (h1 : 1 ≤ k) (h2 : k ≤ 60) : le k s ≤ 20 ∧ lcD k = le k s + (if pl s.F s.n 0 (lcL k) then 1 else 0) ∧ lX k s < 10 ^ (s.n + le k s) ∧ 10 ^ (s.n + le k s) ≤ 10 * lX k s := by
  have ho := lc_at k h1 h2
  unfold lcOk at ho
  simp only [Bool.and_eq_true, decide_eq_true_eq] at ho
  obtain ⟨⟨⟨⟨⟨⟨⟨o1, o2⟩, o3⟩, o4⟩, o5⟩, o6⟩, o7⟩, o8⟩ := ho
  obtain ⟨e, e1, e2, e3⟩ := left_law hs.dig hs.one hs.head (lcL k) rfl o1 o2 o3 o4 o5 o6
  have he : le k s = e := by unfold le; omega
  rw [he]
  exact ⟨by omega, e1, e2, e3⟩
theorem ls_head {s : St} (hs : s.Good) {k : Nat} (h1 : 1 ≤ k) (h2 : k ≤ 60) : dig (s.n + le k s) (lX k s) 0 = 48 + (lX k s / 10 ^ (s.n + le k s - 1) : Nat) ∧ 1 ≤ lX k s / 10 ^ (s.n + le k s - 1) := by
  obtain ⟨_, _, e2, e3⟩ := le_law hs h1 h2
  have hn := hs.one
  obtain ⟨N, hN⟩ : ∃ N, s.n + le k s = N + 1 := ⟨s.n + le k s - 1, by omega⟩
  rw [hN] at e2 e3 ⊢
  rw [Nat.pow_succ] at e2 e3
  rw [Nat.add_sub_cancel]
  have hp : 0 < 10 ^ N := Nat.pow_pos (by omega)
  have h9 : lX k s / 10 ^ N < 10 := by rw [Nat.div_lt_iff_lt_mul hp]; omega
  have h0 : 1 ≤ lX k s / 10 ^ N := Nat.div_pos (by omega) hp
  refine ⟨?_, h0⟩
  unfold dig
  rw [Nat.add_sub_cancel, Nat.sub_zero, Nat.mod_eq_of_lt h9]
theorem ls_good {s : St} (hs : s.Good) {k : Nat} (h1 : 1 ≤ k) (h2 : k ≤ 60) : (ls k s).Good := by
  obtain ⟨h3, h4⟩ := ls_head hs h1 h2
  have hn := hs.one
  have hne : dig (s.n + le k s) (lX k s) 0 ≠ 48 := by omega
  exact ⟨cut_pos hne (by omega), Nat.le_trans (cut_le _ _) (Nat.min_le_right _ _), dig_good _ _ _, hne⟩
end Go.Proofs.YtlkbhmmelejmjaaDoor.FltState

/- The texts of floats as functions of their bytes (plain): the sign, the digits, the exponent; decimal.set and readFloat. -/
namespace Go.Proofs.YtlkbhmmelejmjaaDoor.FltTextP
open Go.RowKit Go.Proofs.YtlkbhmmelejmjaaDoorW.PrintWords Go.Proofs.YtlkbhmmelejmjaaDoor.NumKnown Go.Proofs.YtlkbhmmelejmjaaDoor.NumPure Go.Proofs.YtlkbhmmelejmjaaDoor.FltDec Go.Proofs.YtlkbhmmelejmjaaDoor.FltPure Go.Proofs.YtlkbhmmelejmjaaDoor.FltLeft Go.Proofs.YtlkbhmmelejmjaaDoor.FltRight Go.Proofs.YtlkbhmmelejmjaaDoor.FltLaw Go.Proofs.YtlkbhmmelejmjaaDoor.FltState
set_option linter.unusedVariables false
set_option linter.unusedSimpArgs false

/-- A letter as a small one. -/
def low (c : UInt8) : Int := Go.bits .or .u8 (c.toNat : Int) 32
def isD (c : UInt8) : Bool := decide (48 ≤ c.toNat ∧ c.toNat ≤ 57)
/-- The sign, and what is behind it. -/
def sgn : List UInt8 → Bool × List UInt8
  | [] => (false, [])
  | c :: r => if c.toNat = 43 then (false, r) else if c.toNat = 45 then (true, r) else (false, c :: r)
/-- The digits of an exponent. -/
def escan : List UInt8 → Int → Int × List UInt8
  | [], e => (e, [])
  | c :: r, e => if isD c then escan r (if e < 10000 then e * 10 + (c.toNat : Int) - 48 else e) else (e, c :: r)
def eval (g : Int) : List UInt8 → Option (Int × List UInt8)
  | [] => none
  | c :: r => if isD c then some ((escan (c :: r) 0).1 * g, (escan (c :: r) 0).2) else none
/-- An exponent behind its letter. -/
def expo : List UInt8 → Option (Int × List UInt8)
  | [] => none
  | c :: r => if c.toNat = 43 then eval 1 r else if c.toNat = 45 then eval (-1) r else eval 1 (c :: r)

/-- decimal.set: the state of its loop. -/
structure SS where
  F : Nat → Int
  n : Nat
  dp : Int
  tr : Bool
  dot : Bool
  dig : Bool
def sdig (c : UInt8) (s : SS) : SS :=
  if c.toNat = 48 ∧ s.n = 0 then ⟨s.F, s.n, s.dp - 1, s.tr, s.dot, true⟩
  else if s.n < 800 then ⟨upd s.F s.n (c.toNat : Int), s.n + 1, s.dp, s.tr, s.dot, true⟩
  else if c.toNat = 48 then ⟨s.F, s.n, s.dp, s.tr, s.dot, true⟩ else ⟨s.F, s.n, s.dp, true, s.dot, true⟩
def sscan : List UInt8 → SS → SS × List UInt8
  | [], s => (s, [])
  | c :: r, s => if c.toNat = 46 then (if s.dot then (s, c :: r) else sscan r ⟨s.F, s.n, s.n, s.tr, true, s.dig⟩)
    else if isD c then sscan r (sdig c s) else (s, c :: r)
def ss0 : SS := ⟨fun _ => 0, 0, 0, false, false, false⟩
def sdp (s : SS) : Int := if s.dot then s.dp else s.n
def sfin (s : SS) (x : Int) : List UInt8 → Option St
  | [] => some ⟨s.F, s.n, sdp s + x, s.tr⟩
  | _ :: _ => none
def sE (s : SS) : Option (Int × List UInt8) → Option St
  | none => none
  | some q => sfin s q.1 q.2
def sexp (s : SS) : List UInt8 → Option St
  | [] => some ⟨s.F, s.n, sdp s, s.tr⟩
  | c :: r => if low c = 101 then sE s (expo r) else none
def setF (L : List UInt8) : Option St := if (sscan L ss0).1.dig then sexp (sscan L ss0).1 (sscan L ss0).2 else none

/-- readFloat: the state of its loop (base b, at most m digits kept). -/
structure RS where
  man : Int
  nd : Int
  nm : Int
  dp : Int
  tr : Bool
  dot : Bool
  dig : Bool
def rdig1 (b m : Int) (c : UInt8) (s : RS) : RS :=
  if c.toNat = 48 ∧ s.nd = 0 then ⟨s.man, s.nd, s.nm, s.dp - 1, s.tr, s.dot, true⟩
  else if s.nm < m then ⟨IntKind.u64.wrap (IntKind.u64.wrap (s.man * b) + ((c.toNat : Int) - 48)), s.nd + 1, s.nm + 1, s.dp, s.tr, s.dot, true⟩
  else if c.toNat = 48 then ⟨s.man, s.nd + 1, s.nm, s.dp, s.tr, s.dot, true⟩ else ⟨s.man, s.nd + 1, s.nm, s.dp, true, s.dot, true⟩
def rhex1 (m : Int) (c : UInt8) (s : RS) : RS :=
  if s.nm < m then ⟨IntKind.u64.wrap (IntKind.u64.wrap (s.man * 16) + (low c - 87)), s.nd + 1, s.nm + 1, s.dp, s.tr, s.dot, true⟩
  else ⟨s.man, s.nd + 1, s.nm, s.dp, true, s.dot, true⟩
def rscan (b m : Int) : List UInt8 → RS → RS × List UInt8
  | [], s => (s, [])
  | c :: r, s => if c.toNat = 46 then (if s.dot then (s, c :: r) else rscan b m r ⟨s.man, s.nd, s.nm, s.nd, s.tr, true, s.dig⟩)
    else if isD c then rscan b m r (rdig1 b m c s)
    else if b = 16 ∧ 97 ≤ low c ∧ low c ≤ 102 then rscan b m r (rhex1 m c s) else (s, c :: r)
def rs0 : RS := ⟨0, 0, 0, 0, false, false, false⟩
structure RR where
  man : Int
  exp : Int
  tr : Bool
  hx : Bool
  rest : List UInt8
def rdp (b : Int) (s : RS) : Int := if b = 16 then (if s.dot then s.dp else s.nd) * 4 else (if s.dot then s.dp else s.nd)
def rnm (b : Int) (s : RS) : Int := if b = 16 then s.nm * 4 else s.nm
def rfin (b : Int) (s : RS) (x : Int) (rest : List UInt8) : RR := ⟨s.man, if s.man = 0 then 0 else rdp b s + x - rnm b s, s.tr, decide (b = 16), rest⟩
def rbare (b : Int) (s : RS) (L : List UInt8) : Option RR := if b = 16 then none else some (rfin b s 0 L)
def rE (b : Int) (s : RS) : Option (Int × List UInt8) → Option RR
  | none => none
  | some q => some (rfin b s q.1 q.2)
def rexp (b ec : Int) (s : RS) : List UInt8 → Option RR
  | [] => rbare b s []
  | c :: r => if low c = ec then rE b s (expo r) else rbare b s (c :: r)
def rmain (b m ec : Int) (L : List UInt8) : Option RR := if (rscan b m L rs0).1.dig then rexp b ec (rscan b m L rs0).1 (rscan b m L rs0).2 else none
def hexat : List UInt8 → Bool
  | a :: b :: _ :: _ => decide (a.toNat = 48 ∧ low b = 120)
  | _ => false
def readF (L : List UInt8) : Option RR := if hexat L then rmain 16 16 112 (L.drop 2) else rmain 10 19 101 L

theorem sgn_cons (c : UInt8) (r : List UInt8) : sgn (c :: r) = if c.toNat = 43 then (false, r) else if c.toNat = 45 then (true, r) else (false, c :: r) := rfl
theorem eval_cons (g : Int) (c : UInt8) (r : List UInt8) : eval g (c :: r) = if isD c then some ((escan (c :: r) 0).1 * g, (escan (c :: r) 0).2) else none := rfl
theorem escan_cons (c : UInt8) (r : List UInt8) (e : Int) : escan (c :: r) e = if isD c then escan r (if e < 10000 then e * 10 + (c.toNat : Int) - 48 else e) else (e, c :: r) := rfl
theorem expo_cons (c : UInt8) (r : List UInt8) : expo (c :: r) = if c.toNat = 43 then eval 1 r else if c.toNat = 45 then eval (-1) r else eval 1 (c :: r) := rfl
theorem sexp_cons (s : SS) (c : UInt8) (r : List UInt8) : sexp s (c :: r) = if low c = 101 then sE s (expo r) else none := rfl
theorem sscan_cons (c : UInt8) (r : List UInt8) (s : SS) : sscan (c :: r) s = if c.toNat = 46 then (if s.dot then (s, c :: r) else sscan r ⟨s.F, s.n, s.n, s.tr, true, s.dig⟩) else if isD c then sscan r (sdig c s) else (s, c :: r) := rfl
theorem rscan_cons (b m : Int) (c : UInt8) (r : List UInt8) (s : RS) : rscan b m (c :: r) s = if c.toNat = 46 then (if s.dot then (s, c :: r) else rscan b m r ⟨s.man, s.nd, s.nm, s.nd, s.tr, true, s.dig⟩) else if isD c then rscan b m r (rdig1 b m c s) else if b = 16 ∧ 97 ≤ low c ∧ low c ≤ 102 then rscan b m r (rhex1 m c s) else (s, c :: r) := rfl
theorem rexp_cons (b ec : Int) (s : RS) (c : UInt8) (r : List UInt8) : rexp b ec s (c :: r) = if low c = ec then rE b s (expo r) else rbare b s (c :: r) := rfl
theorem escan_e (L : List UInt8) : ∀ e : Int, 0 ≤ e → e ≤ 99999 → 0 ≤ (escan L e).1 ∧ (escan L e).1 ≤ 99999 := by
  induction L with
  | nil => intro e h1 h2; exact ⟨h1, h2⟩
  | cons c r ih =>
    intro e h1 h2
    unfold escan
    split
    · next h =>
      have := of_decide_eq_true h
      apply ih <;> split <;> omega
    · exact ⟨h1, h2⟩
theorem eval_e {g : Int} (hg : g = 1 ∨ g = -1) {L : List UInt8} {q : Int × List UInt8} (h : eval g L = some q) : -99999 ≤ q.1 ∧ q.1 ≤ 99999 := by
  cases L with
  | nil => simp [eval] at h
  | cons c r =>
    rw [eval_cons] at h
    split at h
    · have := escan_e (c :: r) 0 (by omega) (by omega)
      injection h with h
      subst h
      rcases hg with rfl | rfl
      · show -99999 ≤ (escan (c :: r) 0).1 * 1 ∧ (escan (c :: r) 0).1 * 1 ≤ 99999; omega
      · show -99999 ≤ (escan (c :: r) 0).1 * -1 ∧ (escan (c :: r) 0).1 * -1 ≤ 99999; omega
    · exact absurd h (by simp)
theorem expo_e {L : List UInt8} {q : Int × List UInt8} (h : expo L = some q) : -99999 ≤ q.1 ∧ q.1 ≤ 99999 := by
  cases L with
  | nil => simp [expo] at h
  | cons c r =>
    rw [expo_cons] at h
    split at h
    · exact eval_e (.inl rfl) h
    · split at h
      · exact eval_e (.inr rfl) h
      · exact eval_e (.inl rfl) h

/-- What holds of the loop of set: digits are digits, the first is not 0. -/
structure SS.Ok (s : SS) : Prop where
  most : s.n ≤ 800
  dig : good s.F s.n
  head : 1 ≤ s.n → s.F 0 ≠ 48
theorem ss0_ok : ss0.Ok := ⟨Nat.zero_le _, fun i hi => absurd hi (Nat.not_lt_zero i), fun h => absurd h (by decide)⟩
theorem sdig_ok {c : UInt8} (hc : isD c = true) {s : SS} (hs : s.Ok) : (sdig c s).Ok := by
  have hd := of_decide_eq_true hc
  unfold sdig
  split
  · exact ⟨hs.most, hs.dig, hs.head⟩
  · next h =>
    split
    · next h8 =>
      refine ⟨by show s.n + 1 ≤ 800; omega, ?_, ?_⟩
      · intro i hi
        show 48 ≤ upd s.F s.n (c.toNat : Int) i ∧ upd s.F s.n (c.toNat : Int) i ≤ 57
        unfold upd
        split
        · omega
        · exact hs.dig i (by have : i < s.n + 1 := hi; omega)
      · intro h1
        show upd s.F s.n (c.toNat : Int) 0 ≠ 48
        unfold upd
        split
        · omega
        · exact hs.head (by omega)
    · split
      · exact ⟨hs.most, hs.dig, hs.head⟩
      · exact ⟨hs.most, hs.dig, hs.head⟩
theorem sscan_ok (L : List UInt8) : ∀ s : SS, s.Ok → (sscan L s).1.Ok := by
  induction L with
  | nil => intro s h; exact h
  | cons c r ih =>
    intro s h
    unfold sscan
    split
    · split
      · exact h
      · exact ih _ ⟨h.most, h.dig, h.head⟩
    · split
      · next hd => exact ih _ (sdig_ok hd h)
      · exact h
theorem setF_ok {L : List UInt8} {t : St} (h : setF L = some t) : t.n = 0 ∨ t.Good := by
  have hk := sscan_ok L ss0 ss0_ok
  have key : ∀ s : SS, s.Ok → ∀ x, (⟨s.F, s.n, x, s.tr⟩ : St).n = 0 ∨ (⟨s.F, s.n, x, s.tr⟩ : St).Good := by
    intro s hs x
    by_cases h0 : s.n = 0
    · exact .inl h0
    · exact .inr ⟨by show 1 ≤ s.n; omega, hs.most, hs.dig, hs.head (by omega)⟩
  unfold setF at h
  split at h
  · revert h
    generalize (sscan L ss0).1 = s at hk
    generalize (sscan L ss0).2 = M
    intro h
    cases M with
    | nil =>
      injection h with h
      subst h
      exact key s hk _
    | cons c r =>
      rw [sexp_cons] at h
      split at h
      · revert h
        cases expo r with
        | none => exact fun h => absurd h (by simp [sE])
        | some q =>
          show sfin _ q.1 q.2 = some t → _
          generalize q.2 = N
          intro h
          cases N with
          | nil => injection h with h; subst h; exact key s hk _
          | cons a b => exact absurd h (by simp [sfin])
      · exact absurd h (by simp)
  · exact absurd h (by simp)
end Go.Proofs.YtlkbhmmelejmjaaDoor.FltTextP

/- The decimal of the slow road: decimal.set, walked. -/
namespace Go.Proofs.YtlkbhmmelejmjaaDoor.FltSetB
open Go.RowKit Go.Proofs.YtlkbhmmelejmjaaDoorW.PrintWords Go.Proofs.YtlkbhmmelejmjaaDoor.NumKnown Go.Proofs.YtlkbhmmelejmjaaDoor.NumPure Go.Proofs.YtlkbhmmelejmjaaDoor.FltDec Go.Proofs.YtlkbhmmelejmjaaDoor.FltPure Go.Proofs.YtlkbhmmelejmjaaDoor.FltLeft Go.Proofs.YtlkbhmmelejmjaaDoor.FltRight Go.Proofs.YtlkbhmmelejmjaaDoor.FltLaw Go.Proofs.YtlkbhmmelejmjaaDoor.FltState Go.Proofs.YtlkbhmmelejmjaaDoor.FltTextP
set_option linter.unusedVariables false
set_option linter.unusedSimpArgs false

def LowP (l : Int) (w : World) (e : Ending) (w' : World) : Prop := e = .returned (.int .u8 l) ∧ w = w'
theorem low_walk (c : UInt8) (w : World) : Calls Tryd.prog 50 #[.int .u8 (c.toNat : Int)] w (LowP (low c) w) := by
  go_enter Tryd.func50, Tryd.ntmps50
  go_wp2
  go_ret
  exact ⟨rfl, rfl⟩
theorem below_drew {B : Nat} {a w : World} (h : Below B a w) : Below B a w.drew := ⟨h.os, h.tape, h.output, h.size, h.block⟩
def SetP (p : Nat) (L : List UInt8) (ng : Bool) (w : World) (e : Ending) (w' : World) : Prop := e = .returned (.bool (setF L).isSome) ∧ Below p w w' ∧ ∀ t, setF L = some t → t.At p ng w'

/-- What is behind n statements of a sequence. -/
def after : Nat → Code → Code
  | 0, c => c
  | n + 1, .seq _ b => after n b
  | _, c => c
set_option maxRecDepth 100000 in
theorem frame224 (t : Array Value) (h : t.size = 224) : ∃ u : Nat → Value, t = #[u 0, u 1, u 2, u 3, u 4, u 5, u 6, u 7, u 8, u 9, u 10, u 11, u 12, u 13, u 14, u 15, u 16, u 17, u 18, u 19, u 20, u 21, u 22, u 23, u 24, u 25, u 26, u 27, u 28, u 29, u 30, u 31, u 32, u 33, u 34, u 35, u 36, u 37, u 38, u 39, u 40, u 41, u 42, u 43, u 44, u 45, u 46, u 47, u 48, u 49, u 50, u 51, u 52, u 53, u 54, u 55, u 56, u 57, u 58, u 59, u 60, u 61, u 62, u 63, u 64, u 65, u 66, u 67, u 68, u 69, u 70, u 71, u 72, u 73, u 74, u 75, u 76, u 77, u 78, u 79, u 80, u 81, u 82, u 83, u 84, u 85, u 86, u 87, u 88, u 89, u 90, u 91, u 92, u 93, u 94, u 95, u 96, u 97, u 98, u 99, u 100, u 101, u 102, u 103, u 104, u 105, u 106, u 107, u 108, u 109, u 110, u 111, u 112, u 113, u 114, u 115, u 116, u 117, u 118, u 119, u 120, u 121, u 122, u 123, u 124, u 125, u 126, u 127, u 128, u 129, u 130, u 131, u 132, u 133, u 134, u 135, u 136, u 137, u 138, u 139, u 140, u 141, u 142, u 143, u 144, u 145, u 146, u 147, u 148, u 149, u 150, u 151, u 152, u 153, u 154, u 155, u 156, u 157, u 158, u 159, u 160, u 161, u 162, u 163, u 164, u 165, u 166, u 167, u 168, u 169, u 170, u 171, u 172, u 173, u 174, u 175, u 176, u 177, u 178, u 179, u 180, u 181, u 182, u 183, u 184, u 185, u 186, u 187, u 188, u 189, u 190, u 191, u 192, u 193, u 194, u 195, u 196, u 197, u 198, u 199, u 200, u 201, u 202, u 203, u 204, u 205, u 206, u 207, u 208, u 209, u 210, u 211, u 212, u 213, u 214, u 215, u 216, u 217, u 218, u 219, u 220, u 221, u 222, u 223] := by
  refine ⟨fun i => t.getD i undef, ?_⟩
  have e : t = ((List.range 224).map fun i => t.getD i undef).toArray := by
    apply Array.ext
    · simp [h]
    · intro i h1 h2
      simp [Array.getD, h1]
  exact e

set_option maxHeartbeats 16000000 in
set_option maxRecDepth 100000 in
theorem set_rest (p : Nat) (s : ByteArray) (hsz : s.size ≤ 2200000000) (L : List UInt8) (ng : Bool) (HU : Aside0 (∀ i (h : i < s.size), s[i].toNat ≠ 95)) (w wc : World) (i : Nat) (st : SS) (M : List UInt8) (hi : i ≤ s.size) (HL : Aside0 (s.data.toList.drop i = M ∧ sscan L ss0 = (st, M) ∧ st.Ok ∧ -2200000000 ≤ st.dp ∧ st.dp ≤ 1000 ∧ ∃ g, Dec wc p g st.n st.dp ng st.tr ∧ (∀ j, j < st.n → g j = st.F j) ∧ Below p w wc))
    (t : Array Value) (hz : t.size = 224) (t0 : t[0]? = some (.pointer (some ⟨p, 0, none⟩))) (t1 : t[1]? = some (.string s)) (t4 : t[4]? = some (.bool false)) (t5 : t[5]? = some (.int .i64 (i : Int))) (t6 : t[6]? = some (.bool st.dot)) (t7 : t[7]? = some (.bool st.dig)) :
    (after 9 (Tryd.f59.body.getD .skip)).wp Tryd.prog (bodyPost Tryd.prog Tryd.f59 (SetP p L ng w)) { tmps := t, defers := [] } wc := by
  obtain ⟨u, rfl⟩ := frame224 t hz
  have e0 : u 0 = .pointer (some ⟨p, 0, none⟩) := Option.some.inj t0
  have e1 : u 1 = .string s := Option.some.inj t1
  have e4 : u 4 = .bool false := Option.some.inj t4
  have e5 : u 5 = .int .i64 (i : Int) := Option.some.inj t5
  have e6 : u 6 = .bool st.dot := Option.some.inj t6
  have e7 : u 7 = .bool st.dig := Option.some.inj t7
  rw [e0, e1, e4, e5, e6, e7]
  clear t0 t1 t4 t5 t6 t7 e0 e1 e4 e5 e6 e7 hz
  have hL : s.data.toList.length = s.size := (Lib.size_eq s).symm
  conv =>
    arg 2
    simp only [Tryd.f59, after, Option.getD]
  have hLL := hL
  cases hdg : st.dig with
  | false =>
    have hN : setF L = none := by
      unfold setF
      rw [HL.out.2.1, if_neg (by show ¬ st.dig = true; rw [hdg]; decide)]
    replace hN := Aside0.mk hN
    have HG := Aside0.mk hdg
    go_wp2_with fail
    go_ret
    obtain ⟨g, q1, q2, q3⟩ := HL.out.2.2.2.2.2
    exact ⟨by rw [hN.out]; rfl, q3, fun t h => by rw [hN.out] at h; cases h⟩
  | true =>
    have hF : setF L = sexp st M := by
      unfold setF
      rw [HL.out.2.1, if_pos (by show st.dig = true; exact hdg)]
    replace hF := Aside0.mk hF
    have HD := Aside0.mk hdg
    obtain ⟨g, hG, hg2, hg3⟩ := HL.out.2.2.2.2.2
    have hnd := hG.nd
    have hdp := hG.dp
    have hfz := hG.fz
    have HG := Aside0.mk (And.intro hG (And.intro hg2 hg3))
    clear hG hg2 hg3
    go_upto_if 120 with (fail)
    go_cut [5, 6] (fun v5 v6 wd => v5 = .int .i64 i ∧ v6 = .bool st.dot ∧ Aside0 (Dec wd p g st.n (sdp st) ng st.tr ∧ Below p w wd))
    case first =>
      cases hdot : st.dot with
      | true =>
        have HO := Aside0.mk hdot
        go_wp2_with fail
        go_meet
        case rel => exact ⟨rfl, by rw [HO.out], ⟨by unfold sdp; rw [if_pos HO.out]; exact HG.out.1, HG.out.2.2⟩⟩
      | false =>
        have HO := Aside0.mk hdot
        go_wp2_with fail
        go_meet
        case rel => exact ⟨rfl, by rw [HO.out], ⟨by unfold sdp; rw [if_neg (by rw [HO.out]; decide)]; exact HG.out.1.setDp _, HG.out.2.2.setCell (p := ⟨p, 801, none⟩) (Nat.le_refl p) _⟩⟩
    case rest =>
      obtain ⟨rfl, rfl, HW⟩ := hcut
      clear hnd hdp hfz
      have hsd : -2200000000 ≤ sdp st ∧ sdp st ≤ 1000 := by
        have := HL.out.2.2.2.1
        have := HL.out.2.2.2.2.1
        have := HL.out.2.2.1.most
        unfold sdp
        split <;> omega
      obtain ⟨hd0, hd1⟩ := hsd
      have hgg := HG.out.2.1
      replace hgg := Aside0.mk hgg
      generalize hq : sdp st = dp at hd0 hd1 HW
      have HQ := Aside0.mk hq
      clear hq
      have hM0 : M = [] ∨ ∃ c r, M = c :: r := by cases M with | nil => exact .inl rfl | cons a b => exact .inr ⟨a, b, rfl⟩
      rcases hM0 with hM | ⟨c, r, hM⟩
      · have hi' : i = s.size := by
          have h := HL.out.1
          rw [hM] at h
          have := congrArg List.length h
          simp at this
          omega
        subst hi'
        have HM := Aside0.mk hM
        go_wp2_with fail
        go_ret
        have e : setF L = some ⟨st.F, st.n, dp, st.tr⟩ := by rw [hF.out, HM.out, ← HQ.out]; rfl
        refine ⟨by rw [e]; rfl, HW.out.2, fun t h => ?_⟩
        rw [e] at h
        injection h with h
        subst h
        exact ⟨g, HW.out.1, hgg.out⟩
      · have hlt : i < s.size := by
          have h := HL.out.1
          rw [hM] at h
          have := congrArg List.length h
          simp at this
          omega
        have hdc := drop_cons (l := s.data.toList) (i := i) (by omega)
        have hce : s.data.toList[i]'(by omega) = s[i] := rfl
        rw [HL.out.1, hM, hce] at hdc
        injection hdc with hd2 hd3
        have hcs : s[i] = c := hd2.symm
        have HM := Aside0.mk (And.intro hM hd3)
        clear hd2 hd3 hce hM
        obtain ⟨lc, hlc⟩ : ∃ lc, lc = low c := ⟨_, rfl⟩
        have C := Aside0.mk (low_walk c)
        rw [← hlc] at C
        by_cases h101 : lc = 101
        · subst h101
          replace hlc := Aside0.mk hlc
          have hF2 : setF L = sE st (expo r) := by rw [hF.out, HM.out.1, sexp_cons, if_pos hlc.out.symm]
          replace hF2 := Aside0.mk hF2
          have hR0 : r = [] ∨ ∃ c1 r1, r = c1 :: r1 := by cases r with | nil => exact .inl rfl | cons a b => exact .inr ⟨a, b, rfl⟩
          rcases hR0 with hR | ⟨c1, r1, hR⟩
          · have hi' : i + 1 = s.size := by
              have h := HM.out.2
              rw [hR] at h
              have := congrArg List.length h
              simp at this
              omega
            have hge : ((s.size : Int)) ≤ (i : Int) + 1 := by omega
            have hN : setF L = none := by rw [hF2.out, hR]; rfl
            replace hN := Aside0.mk hN
            have HI := Aside0.mk hi'
            clear hR hi'
            go_wp2_with (first | (go_at_call 50; refine (C.out _).mono ?_; rintro e w' ⟨rfl, rfl⟩))
            go_ret
            exact ⟨by rw [hN.out]; rfl, HW.out.2, fun t h => by rw [hN.out] at h; cases h⟩
          · have hlt1 : i + 1 < s.size := by
              have h := HM.out.2
              rw [hR] at h
              have := congrArg List.length h
              simp at this
              omega
            have hdc := drop_cons (l := s.data.toList) (i := i + 1) (by omega)
            have hce : s.data.toList[i + 1]'(by omega) = s[i + 1] := rfl
            rw [← HM.out.2, hR, hce] at hdc
            injection hdc with hd2 hd3
            have hcs1 : s[i + 1] = c1 := hd2.symm
            have HR := Aside0.mk (And.intro hR hd3)
            have hlt1i : (i : Int) + 1 < (s.size : Int) := by omega
            clear hd2 hd3 hce hR
            go_upto_block 4 with (first | (go_at_call 50; refine (C.out _).mono ?_; rintro e w' ⟨rfl, rfl⟩))
            go_cut [5, 8] (fun v5 v8 we => ∃ (i2 : Nat) (gs : Int), v5 = .int .i64 i2 ∧ v8 = .int .i64 gs ∧ i2 ≤ s.size ∧ (gs = 1 ∨ gs = -1) ∧ Aside0 (expo r = eval gs (s.data.toList.drop i2)) ∧ we = wc)
            case first =>
              by_cases h43 : c1.toNat = 43
              · have HE := Aside0.mk h43
                go_wp2_with fail
                go_meet
                case rel =>
                  refine ⟨i + 1 + 1, 1, by go_num, rfl, by omega, .inl rfl, ⟨?_⟩, rfl⟩
                  rw [HR.out.1, expo_cons, if_pos HE.out, ← HR.out.2]
              · have q43 : ((c1.toNat : Int) == 43) = false := beq_eq_false_iff_ne.mpr (by omega)
                by_cases h45 : c1.toNat = 45
                · have HE := Aside0.mk (And.intro h43 h45)
                  go_wp2_with fail
                  go_meet
                  case rel =>
                    refine ⟨i + 1 + 1, -1, by go_num, rfl, by omega, .inr rfl, ⟨?_⟩, rfl⟩
                    rw [HR.out.1, expo_cons, if_neg HE.out.1, if_pos HE.out.2, ← HR.out.2]
                · have q45 : ((c1.toNat : Int) == 45) = false := beq_eq_false_iff_ne.mpr (by omega)
                  have HE := Aside0.mk (And.intro h43 h45)
                  go_wp2_with fail
                  go_meet
                  case rel =>
                    refine ⟨i + 1, 1, by go_num, rfl, by omega, .inl rfl, ⟨?_⟩, rfl⟩
                    rw [HR.out.1, expo_cons, if_neg HE.out.1, if_neg HE.out.2, ← HR.out.1, HM.out.2]
            case rest =>
              obtain ⟨i2, gs, rfl, rfl, hi2, hgs, HX, rfl⟩ := hcut
              clear hcs hcs1 hlt hlt1 hlt1i
              have hL20 : s.data.toList.drop i2 = [] ∨ ∃ c2 r2, s.data.toList.drop i2 = c2 :: r2 := by cases s.data.toList.drop i2 with | nil => exact .inl rfl | cons a b => exact .inr ⟨a, b, rfl⟩
              rcases hL20 with hL2 | ⟨c2, r2, hL2⟩
              · have hi' : i2 = s.size := by
                  have := congrArg List.length hL2
                  simp at this
                  omega
                subst hi'
                have hN : setF L = none := by rw [hF2.out, HX.out, hL2]; rfl
                replace hN := Aside0.mk hN
                clear hL2
                go_wp2_with fail
                go_ret
                exact ⟨by rw [hN.out]; rfl, HW.out.2, fun t h => by rw [hN.out] at h; cases h⟩
              · have hlt2 : i2 < s.size := by
                  have := congrArg List.length hL2
                  simp at this
                  omega
                have hdc := drop_cons (l := s.data.toList) (i := i2) (by omega)
                have hce : s.data.toList[i2]'(by omega) = s[i2] := rfl
                rw [hL2, hce] at hdc
                injection hdc with hd2 hd3
                have hcs2 : s[i2] = c2 := hd2.symm
                have hX2 := HX.out
                rw [hL2, eval_cons] at hX2
                have H2 := Aside0.mk (And.intro hL2 hd3)
                clear hd2 hd3 hce hL2
                by_cases hdg2 : 48 ≤ c2.toNat ∧ c2.toNat ≤ 57
                · obtain ⟨d0, d1⟩ := hdg2
                  have hid : isD c2 = true := decide_eq_true ⟨d0, d1⟩
                  rw [if_pos hid] at hX2
                  replace hX2 := Aside0.mk hX2
                  clear hid
                  have hb1 : decide (s.size ≤ i2) = false := decide_eq_false (by omega)
                  have hb2 : decide ((c2.toNat : Int) < 48) = false := decide_eq_false (by omega)
                  have hb3 : decide (57 < (c2.toNat : Int)) = false := decide_eq_false (by omega)
                  go_upto_block 5 with (fail)
                  go_cut [5, 9] from 172 to 209 (fun v5 v9 wd => ∃ (i3 : Nat) (e : Int), v5 = .int .i64 i3 ∧ v9 = .int .i64 e ∧ i3 ≤ s.size ∧ 0 ≤ e ∧ e ≤ 99999 ∧ Aside0 (escan (c2 :: r2) 0 = (e, s.data.toList.drop i3)) ∧ wd = wc)
                  case first =>
                    go_wp2_with fail
                    go_loopg [5, 9] (s.size - i2) (fun kq v5 v9 wx => ∃ (i3 : Nat) (e : Int), v5 = .int .i64 i3 ∧ v9 = .int .i64 e ∧ i3 + kq = s.size ∧ 0 ≤ e ∧ e ≤ 99999 ∧ Aside0 (escan (s.data.toList.drop i3) e = escan (c2 :: r2) 0) ∧ wx = wc)
                    case atStart => exact ⟨i2, 0, rfl, rfl, by omega, by omega, by omega, ⟨by rw [H2.out.1]⟩, rfl⟩
                    case round =>
                      clear hcs2 d0 d1 hlt2 C
                      obtain ⟨i3, e, rfl, rfl, hi3, he0, he1, HE, rfl⟩ := hrel
                      cases gk with
                      | zero =>
                        obtain rfl : i3 = s.size := by omega
                        go_wp2_with fail
                        go_meet
                        case rel =>
                          refine ⟨s.size, e, rfl, rfl, by omega, he0, he1, ⟨?_⟩, rfl⟩
                          have hn : s.data.toList.drop s.size = [] := List.drop_eq_nil_of_le (by omega)
                          rw [← HE.out, hn]; rfl
                      | succ k1 =>
                        have hlt3 : i3 < s.size := by omega
                        obtain ⟨c3, hc3⟩ : ∃ c3, c3 = s[i3] := ⟨_, rfl⟩
                        have hdc : s.data.toList.drop i3 = c3 :: s.data.toList.drop (i3 + 1) := by rw [hc3]; exact drop_cons (l := s.data.toList) (i := i3) (by omega)
                        have hcs3 : s[i3] = c3 := hc3.symm
                        have q95 : ((c3.toNat : Int) == 95) = false := beq_eq_false_iff_ne.mpr (by have := HU.out i3 hlt3; rw [hcs3] at this; omega)
                        have HC3 := Aside0.mk hdc
                        clear hdc hc3
                        by_cases hdg3 : 48 ≤ c3.toNat ∧ c3.toNat ≤ 57
                        · have hid : isD c3 = true := decide_eq_true hdg3
                          obtain ⟨d0, d1⟩ := hdg3
                          replace hid := Aside0.mk hid
                          by_cases h4 : e < 10000
                          · have H4 := Aside0.mk h4
                            go_wp2_with fail
                            go_roundg k1
                            case rel =>
                              refine ⟨i3 + 1, e * 10 + (c3.toNat : Int) - 48, by go_num, by first | rfl | go_num, by omega, by omega, by omega, ⟨?_⟩, rfl⟩
                              rw [← HE.out, HC3.out, escan_cons, if_pos hid.out, if_pos H4.out]
                            case measure => exact Nat.lt_succ_self _
                          · have H4 := Aside0.mk h4
                            go_wp2_with fail
                            go_roundg k1
                            case rel =>
                              refine ⟨i3 + 1, e, by go_num, rfl, by omega, by omega, by omega, ⟨?_⟩, rfl⟩
                              rw [← HE.out, HC3.out, escan_cons, if_pos hid.out, if_neg (by have := H4.out; omega)]
                            case measure => exact Nat.lt_succ_self _
                        · have hid : isD c3 = false := decide_eq_false hdg3
                          replace hid := Aside0.mk hid
                          have hsp : c3.toNat < 48 ∨ 57 < c3.toNat := by omega
                          clear hdg3
                          rcases hsp with hsp | hsp
                          · go_wp2_with fail
                            go_meet
                            case rel =>
                              refine ⟨i3, e, rfl, rfl, by omega, he0, he1, ⟨?_⟩, rfl⟩
                              rw [← HE.out, HC3.out, escan_cons, if_neg (by rw [hid.out]; decide)]
                          · go_wp2_with fail
                            go_meet
                            case rel =>
                              refine ⟨i3, e, rfl, rfl, by omega, he0, he1, ⟨?_⟩, rfl⟩
                              rw [← HE.out, HC3.out, escan_cons, if_neg (by rw [hid.out]; decide)]
                  case rest =>
                    obtain ⟨i3, e, rfl, rfl, hi3, he0, he1, HE, rfl⟩ := hcut
                    clear hcs2 d0 d1 hlt2 C
                    have hdpc := HW.out.1.dp
                    have hfz := HW.out.1.fz
                    have hrs : setF L = sfin st (e * gs) (s.data.toList.drop i3) := by rw [hF2.out, hX2.out, HE.out]; rfl
                    obtain ⟨y, hy⟩ : ∃ y, y = e * gs := ⟨_, rfl⟩
                    rw [← hy] at hrs
                    have hyb : -99999 ≤ y ∧ y ≤ 99999 := by
                      rcases hgs with h | h
                      · rw [h] at hy; omega
                      · rw [h] at hy; omega
                    obtain ⟨hy0, hy1⟩ := hyb
                    have a1 : wrap64 (e * gs) = y := by rw [hy]; unfold wrap64; omega
                    have HGS := Aside0.mk hy
                    clear hgs hy
                    by_cases hend : i3 = s.size
                    · have hn : s.data.toList.drop i3 = [] := List.drop_eq_nil_of_le (by omega)
                      have hr2 : setF L = some ⟨st.F, st.n, dp + y, st.tr⟩ := by rw [hrs, hn, ← HQ.out]; rfl
                      replace hr2 := Aside0.mk hr2
                      clear hrs hn
                      subst hend
                      go_wp2_with fail
                      go_ret
                      refine ⟨by rw [hr2.out]; rfl, HW.out.2.setCell (p := ⟨p, 801, none⟩) (Nat.le_refl p) _, fun t h => ?_⟩
                      rw [hr2.out] at h
                      injection h with h
                      subst h
                      exact ⟨g, HW.out.1.setDp _, hgg.out⟩
                    · have hn : ∃ a b, s.data.toList.drop i3 = a :: b := ⟨_, _, drop_cons (l := s.data.toList) (i := i3) (by omega)⟩
                      have hr2 : setF L = none := by
                        obtain ⟨a, b, hab⟩ := hn
                        rw [hrs, hab]; rfl
                      replace hr2 := Aside0.mk hr2
                      have hne3 : ((i3 : Int) != (s.size : Int)) = true := bne_iff_ne.mpr (by omega)
                      clear hrs hn hend
                      go_wp2_with fail
                      go_ret
                      exact ⟨by rw [hr2.out]; rfl, HW.out.2.setCell (p := ⟨p, 801, none⟩) (Nat.le_refl p) _, fun t h => by rw [hr2.out] at h; cases h⟩
                · have hid : isD c2 = false := decide_eq_false hdg2
                  have hN : setF L = none := by rw [hF2.out, hX2, if_neg (by rw [hid]; decide)]; rfl
                  replace hN := Aside0.mk hN
                  have hsp : c2.toNat < 48 ∨ 57 < c2.toNat := by omega
                  clear hX2 hid hdg2
                  rcases hsp with hsp | hsp
                  · go_wp2_with fail
                    go_ret
                    exact ⟨by rw [hN.out]; rfl, HW.out.2, fun t h => by rw [hN.out] at h; cases h⟩
                  · go_wp2_with fail
                    go_ret
                    exact ⟨by rw [hN.out]; rfl, HW.out.2, fun t h => by rw [hN.out] at h; cases h⟩
        · have q101 : (lc == 101) = false := beq_eq_false_iff_ne.mpr h101
          have HE := Aside0.mk (And.intro hlc h101)
          have hni : ((i : Int) != (s.size : Int)) = true := bne_iff_ne.mpr (by omega)
          have hN : setF L = none := by rw [hF.out, HM.out.1, sexp_cons, if_neg (by rw [← hlc]; exact h101)]
          replace hN := Aside0.mk hN
          clear hlc h101
          go_wp2_with (first | (go_at_call 50; refine (C.out _).mono ?_; rintro e w' ⟨rfl, rfl⟩))
          go_ret
          exact ⟨by rw [hN.out]; rfl, HW.out.2, fun t h => by rw [hN.out] at h; cases h⟩
end Go.Proofs.YtlkbhmmelejmjaaDoor.FltSetB

/- readFloat, walked: what is behind its digits. -/
namespace Go.Proofs.YtlkbhmmelejmjaaDoor.FltReadA
open Go.RowKit Go.Proofs.YtlkbhmmelejmjaaDoorW.PrintWords Go.Proofs.YtlkbhmmelejmjaaDoor.NumKnown Go.Proofs.YtlkbhmmelejmjaaDoor.NumPure Go.Proofs.YtlkbhmmelejmjaaDoor.FltDec Go.Proofs.YtlkbhmmelejmjaaDoor.FltPure Go.Proofs.YtlkbhmmelejmjaaDoor.FltLeft Go.Proofs.YtlkbhmmelejmjaaDoor.FltRight Go.Proofs.YtlkbhmmelejmjaaDoor.FltLaw Go.Proofs.YtlkbhmmelejmjaaDoor.FltState Go.Proofs.YtlkbhmmelejmjaaDoor.FltTextP Go.Proofs.YtlkbhmmelejmjaaDoor.FltSetB
set_option linter.unusedVariables false
set_option linter.unusedSimpArgs false

def inner : Code → Code
  | .scope c => c
  | c => c
/-- What readFloat gives: the number read, or nothing. -/
def RdP (s : ByteArray) (L : List UInt8) (ng : Bool) (w : World) (e : Ending) (w' : World) : Prop := w' = w ∧
  ((∃ (m x i : Int) (n t h : Bool), readF L = none ∧ e = .returned (.tuple #[.int .u64 m, .int .i64 x, .bool n, .bool t, .bool h, .int .i64 i, .bool false])) ∨
   (∃ (r : RR) (i : Nat), readF L = some r ∧ s.data.toList.drop i = r.rest ∧ i ≤ s.size ∧ e = .returned (.tuple #[.int .u64 r.man, .int .i64 r.exp, .bool ng, .bool r.tr, .bool r.hx, .int .i64 (i : Int), .bool true])))
theorem results_tmp7 {fn : Func} {a b c d e f g : Tmp} (h : fn.results = #[.tmp a, .tmp b, .tmp c, .tmp d, .tmp e, .tmp f, .tmp g]) (tmps : Array Value) (P : Program) (w : World) :
    (results fn tmps).run P w = .ok (.tuple #[tmps.getD a undef, tmps.getD b undef, tmps.getD c undef, tmps.getD d undef, tmps.getD e undef, tmps.getD f undef, tmps.getD g undef]) w := by
  simp [results, h]
set_option maxRecDepth 100000 in
theorem frame253 (t : Array Value) (h : t.size = 253) : ∃ u : Nat → Value, t = #[u 0, u 1, u 2, u 3, u 4, u 5, u 6, u 7, u 8, u 9, u 10, u 11, u 12, u 13, u 14, u 15, u 16, u 17, u 18, u 19, u 20, u 21, u 22, u 23, u 24, u 25, u 26, u 27, u 28, u 29, u 30, u 31, u 32, u 33, u 34, u 35, u 36, u 37, u 38, u 39, u 40, u 41, u 42, u 43, u 44, u 45, u 46, u 47, u 48, u 49, u 50, u 51, u 52, u 53, u 54, u 55, u 56, u 57, u 58, u 59, u 60, u 61, u 62, u 63, u 64, u 65, u 66, u 67, u 68, u 69, u 70, u 71, u 72, u 73, u 74, u 75, u 76, u 77, u 78, u 79, u 80, u 81, u 82, u 83, u 84, u 85, u 86, u 87, u 88, u 89, u 90, u 91, u 92, u 93, u 94, u 95, u 96, u 97, u 98, u 99, u 100, u 101, u 102, u 103, u 104, u 105, u 106, u 107, u 108, u 109, u 110, u 111, u 112, u 113, u 114, u 115, u 116, u 117, u 118, u 119, u 120, u 121, u 122, u 123, u 124, u 125, u 126, u 127, u 128, u 129, u 130, u 131, u 132, u 133, u 134, u 135, u 136, u 137, u 138, u 139, u 140, u 141, u 142, u 143, u 144, u 145, u 146, u 147, u 148, u 149, u 150, u 151, u 152, u 153, u 154, u 155, u 156, u 157, u 158, u 159, u 160, u 161, u 162, u 163, u 164, u 165, u 166, u 167, u 168, u 169, u 170, u 171, u 172, u 173, u 174, u 175, u 176, u 177, u 178, u 179, u 180, u 181, u 182, u 183, u 184, u 185, u 186, u 187, u 188, u 189, u 190, u 191, u 192, u 193, u 194, u 195, u 196, u 197, u 198, u 199, u 200, u 201, u 202, u 203, u 204, u 205, u 206, u 207, u 208, u 209, u 210, u 211, u 212, u 213, u 214, u 215, u 216, u 217, u 218, u 219, u 220, u 221, u 222, u 223, u 224, u 225, u 226, u 227, u 228, u 229, u 230, u 231, u 232, u 233, u 234, u 235, u 236, u 237, u 238, u 239, u 240, u 241, u 242, u 243, u 244, u 245, u 246, u 247, u 248, u 249, u 250, u 251, u 252] := by
  refine ⟨fun i => t.getD i undef, ?_⟩
  have e : t = ((List.range 253).map fun i => t.getD i undef).toArray := by
    apply Array.ext
    · simp [h]
    · intro i h1 h2
      simp [Array.getD, h1]
  exact e

theorem rfin_exp0 {b : Int} {st : RS} {x : Int} {rest : List UInt8} (h : (st.man != 0) = false) : (rfin b st x rest).exp = 0 := by
  have : st.man = 0 := by simpa using h
  unfold rfin
  rw [if_pos this]
theorem rfin_exp1 {b : Int} {st : RS} {x dp nm : Int} {rest : List UInt8} (h : (st.man != 0) = true) (hq : nm = rnm b st ∧ dp = rdp b st) : (rfin b st x rest).exp = dp + x - nm := by
  have : ¬ st.man = 0 := by simpa using h
  unfold rfin
  rw [if_neg this, hq.1, hq.2]
theorem rfin_hx {b : Int} {st : RS} {x : Int} {rest : List UInt8} {hx : Bool} (h : hx = decide (b = 16)) : (rfin b st x rest).hx = hx := h.symm

def headOf : Code → Code
  | .seq a _ => a
  | c => c
def thenOf : Code → Code
  | .seq _ (.cond _ a _) => a
  | .cond _ a _ => a
  | c => c
set_option maxHeartbeats 16000000 in
set_option maxRecDepth 100000 in
theorem read_end (s : ByteArray) (L : List UInt8) (ng : Bool) (w : World) (r : RR) (i : Nat) (dp nm : Int) (hi : i ≤ s.size) (hr : readF L = some r) (hrest : s.data.toList.drop i = r.rest) (hexp : r.exp = if r.man = 0 then 0 else dp - nm) (hm0 : 0 ≤ nm) (hm1 : nm ≤ 100) (hd0 : -9500000000 ≤ dp) (hd1 : dp ≤ 9500000000)
    (t : Array Value) (hz : t.size = 253) (t0 : t[0]? = some (.string s)) (t2 : t[2]? = some (.int .u64 r.man)) (t3 : t[3]? = some (.int .i64 0)) (t4 : t[4]? = some (.bool ng)) (t5 : t[5]? = some (.bool r.tr)) (t6 : t[6]? = some (.bool r.hx)) (t7 : t[7]? = some (.int .i64 (i : Int))) (t8 : t[8]? = some (.bool false)) (t9 : t[9]? = some (.bool false)) (t16 : t[16]? = some (.int .i64 nm)) (t17 : t[17]? = some (.int .i64 dp)) :
    (after 18 (inner (after 1 (Tryd.f53.body.getD .skip)))).wp Tryd.prog (Exit.noGoto (bodyPost Tryd.prog Tryd.f53 (RdP s L ng w))) { tmps := t, defers := [] } w := by
  obtain ⟨u, rfl⟩ := frame253 t hz
  have e0 : u 0 = .string s := Option.some.inj t0
  have e2 : u 2 = .int .u64 r.man := Option.some.inj t2
  have e3 : u 3 = .int .i64 0 := Option.some.inj t3
  have e4 : u 4 = .bool ng := Option.some.inj t4
  have e5 : u 5 = .bool r.tr := Option.some.inj t5
  have e6 : u 6 = .bool r.hx := Option.some.inj t6
  have e7 : u 7 = .int .i64 (i : Int) := Option.some.inj t7
  have e8 : u 8 = .bool false := Option.some.inj t8
  have e9 : u 9 = .bool false := Option.some.inj t9
  have e16 : u 16 = .int .i64 nm := Option.some.inj t16
  have e17 : u 17 = .int .i64 dp := Option.some.inj t17
  rw [e0, e2, e3, e4, e5, e6, e7, e8, e9, e16, e17]
  clear t0 e0 t2 e2 t3 e3 t4 e4 t5 e5 t6 e6 t7 e7 t8 e8 t9 e9 t16 e16 t17 e17 hz
  have HR := Aside0.mk (And.intro hr (And.intro hrest hi))
  have HX := Aside0.mk hexp
  clear hr hrest hexp
  conv =>
    arg 2
    simp only [Tryd.f53, after, inner, Option.getD]
  by_cases hm : r.man = 0
  · have e : r.exp = 0 := by rw [HX.out, if_pos hm]
    replace e := Aside0.mk e
    have HM := Aside0.mk hm
    have q0 : (r.man != 0) = false := by rw [hm]; rfl
    clear hm
    go_wp2_with fail
    refine bodyPost_ret (results_tmp7 rfl _ _ _) rfl ?_
    refine ⟨rfl, .inr ⟨r, i, HR.out.1, HR.out.2.1, HR.out.2.2, ?_⟩⟩
    rw [e.out]; rfl
  · have e : r.exp = dp - nm := by rw [HX.out, if_neg hm]
    replace e := Aside0.mk e
    have HM := Aside0.mk hm
    have q0 : (r.man != 0) = true := bne_iff_ne.mpr hm
    clear hm
    go_wp2_with fail
    refine bodyPost_ret (results_tmp7 rfl _ _ _) rfl ?_
    refine ⟨rfl, .inr ⟨r, i, HR.out.1, HR.out.2.1, HR.out.2.2, ?_⟩⟩
    rw [e.out]; rfl

set_option maxHeartbeats 16000000 in
set_option maxRecDepth 100000 in
theorem read_num (K2 : Act → World → Prop) (s : ByteArray) (hsz : s.size ≤ 2200000000) (L : List UInt8) (ng hx : Bool) (HU : Aside0 (∀ i (h : i < s.size), s[i].toNat ≠ 95)) (w : World) (hK2 : ∀ a w1, (after 18 (inner (after 1 (Tryd.f53.body.getD .skip)))).wp Tryd.prog (Exit.noGoto (bodyPost Tryd.prog Tryd.f53 (RdP s L ng w))) a w1 → K2 a w1) (b : Int) (st : RS) (r : List UInt8) (HBX : Aside0 (hx = decide (b = 16))) (hF2 : Aside0 (readF L = rE b st (expo r))) (nm dp : Int) (hr0 : 0 ≤ nm) (hr1 : nm ≤ 76) (hr2 : -8800000000 ≤ dp) (hr3 : dp ≤ 8800000000) (HQ : Aside0 (nm = rnm b st ∧ dp = rdp b st)) (i2 : Nat) (gs : Int) (hi2 : i2 ≤ s.size) (hgs : gs = 1 ∨ gs = -1) (HX : Aside0 (expo r = eval gs (s.data.toList.drop i2)))
    (t : Array Value) (hz : t.size = 253) (t0 : t[0]? = some (.string s)) (t2 : t[2]? = some (.int .u64 st.man)) (t3 : t[3]? = some (.int .i64 0)) (t4 : t[4]? = some (.bool ng)) (t5 : t[5]? = some (.bool st.tr)) (t6 : t[6]? = some (.bool hx)) (t7 : t[7]? = some (.int .i64 (i2 : Int))) (t8 : t[8]? = some (.bool false)) (t9 : t[9]? = some (.bool false)) (t16 : t[16]? = some (.int .i64 nm)) (t17 : t[17]? = some (.int .i64 dp)) (t19 : t[19]? = some (.int .i64 gs)) :
    (after 4 (thenOf (headOf (after 17 (inner (after 1 (Tryd.f53.body.getD .skip))))))).wp Tryd.prog (Exit.then K2 (Exit.noGoto (bodyPost Tryd.prog Tryd.f53 (RdP s L ng w)))) { tmps := t, defers := [] } w := by
  obtain ⟨u, rfl⟩ := frame253 t hz
  have e0 : u 0 = .string s := Option.some.inj t0
  have e2 : u 2 = .int .u64 st.man := Option.some.inj t2
  have e3 : u 3 = .int .i64 0 := Option.some.inj t3
  have e4 : u 4 = .bool ng := Option.some.inj t4
  have e5 : u 5 = .bool st.tr := Option.some.inj t5
  have e6 : u 6 = .bool hx := Option.some.inj t6
  have e7 : u 7 = .int .i64 (i2 : Int) := Option.some.inj t7
  have e8 : u 8 = .bool false := Option.some.inj t8
  have e9 : u 9 = .bool false := Option.some.inj t9
  have e16 : u 16 = .int .i64 nm := Option.some.inj t16
  have e17 : u 17 = .int .i64 dp := Option.some.inj t17
  have e19 : u 19 = .int .i64 gs := Option.some.inj t19
  rw [e0, e2, e3, e4, e5, e6, e7, e8, e9, e16, e17, e19]
  clear t0 e0 t2 e2 t3 e3 t4 e4 t5 e5 t6 e6 t7 e7 t8 e8 t9 e9 t16 e16 t17 e17 t19 e19 hz
  have hL : s.data.toList.length = s.size := (Lib.size_eq s).symm
  replace hK2 := Aside0.mk hK2
  conv =>
    arg 2
    simp only [Tryd.f53, after, inner, headOf, thenOf, Option.getD]
  have hL20 : s.data.toList.drop i2 = [] ∨ ∃ c2 r2, s.data.toList.drop i2 = c2 :: r2 := by cases s.data.toList.drop i2 with | nil => exact .inl rfl | cons a b => exact .inr ⟨a, b, rfl⟩
  rcases hL20 with hL2 | ⟨c2, r2, hL2⟩
  · have hi' : i2 = s.size := by
      have := congrArg List.length hL2
      simp at this
      omega
    subst hi'
    have hN : readF L = none := by rw [hF2.out, HX.out, hL2]; rfl
    replace hN := Aside0.mk hN
    clear hL2
    go_wp2_with fail
    refine bodyPost_ret (results_tmp7 rfl _ _ _) rfl ?_
    exact ⟨rfl, .inl ⟨_, _, _, _, _, _, hN.out, rfl⟩⟩
  · have hlt2 : i2 < s.size := by
      have := congrArg List.length hL2
      simp at this
      omega
    have hdc := drop_cons (l := s.data.toList) (i := i2) (by omega)
    have hce : s.data.toList[i2]'(by omega) = s[i2] := rfl
    rw [hL2, hce] at hdc
    injection hdc with hd2 hd3
    have hcs2 : s[i2] = c2 := hd2.symm
    have hX2 := HX.out
    rw [hL2, eval_cons] at hX2
    have H2 := Aside0.mk (And.intro hL2 hd3)
    clear hd2 hd3 hce hL2
    by_cases hdg2 : 48 ≤ c2.toNat ∧ c2.toNat ≤ 57
    · obtain ⟨d0, d1⟩ := hdg2
      have hid : isD c2 = true := decide_eq_true ⟨d0, d1⟩
      rw [if_pos hid] at hX2
      replace hX2 := Aside0.mk hX2
      clear hid
      have hb1 : decide (s.size ≤ i2) = false := decide_eq_false (by omega)
      have hb2 : decide ((c2.toNat : Int) < 48) = false := decide_eq_false (by omega)
      have hb3 : decide (57 < (c2.toNat : Int)) = false := decide_eq_false (by omega)
      go_upto_block 5 with (fail)
      go_cut [7, 9, 20] from 195 to 232 (fun v5 vu v9 wd => ∃ (i3 : Nat) (e : Int), v5 = .int .i64 i3 ∧ vu = .bool false ∧ v9 = .int .i64 e ∧ i3 ≤ s.size ∧ 0 ≤ e ∧ e ≤ 99999 ∧ Aside0 (escan (c2 :: r2) 0 = (e, s.data.toList.drop i3)) ∧ w = wd)
      case first =>
        go_wp2_with fail
        go_loopg [7, 9, 20] (s.size - i2) (fun kq v5 vu v9 wx => ∃ (i3 : Nat) (e : Int), v5 = .int .i64 i3 ∧ vu = .bool false ∧ v9 = .int .i64 e ∧ i3 + kq = s.size ∧ 0 ≤ e ∧ e ≤ 99999 ∧ Aside0 (escan (s.data.toList.drop i3) e = escan (c2 :: r2) 0) ∧ w = wx)
        case atStart => exact ⟨i2, 0, rfl, rfl, rfl, by omega, by omega, by omega, ⟨by rw [H2.out.1]⟩, rfl⟩
        case round =>
          clear hcs2 d0 d1 hlt2
          obtain ⟨i3, e, rfl, rfl, rfl, hi3, he0, he1, HE, rfl⟩ := hrel
          cases gk with
          | zero =>
            obtain rfl : i3 = s.size := by omega
            go_wp2_with fail
            go_meet
            case rel =>
              refine ⟨s.size, e, rfl, rfl, rfl, by omega, he0, he1, ⟨?_⟩, rfl⟩
              have hn : s.data.toList.drop s.size = [] := List.drop_eq_nil_of_le (by omega)
              rw [← HE.out, hn]; rfl
          | succ k1 =>
            have hlt3 : i3 < s.size := by omega
            obtain ⟨c3, hc3⟩ : ∃ c3, c3 = s[i3] := ⟨_, rfl⟩
            have hdc : s.data.toList.drop i3 = c3 :: s.data.toList.drop (i3 + 1) := by rw [hc3]; exact drop_cons (l := s.data.toList) (i := i3) (by omega)
            have hcs3 : s[i3] = c3 := hc3.symm
            have q95 : ((c3.toNat : Int) == 95) = false := beq_eq_false_iff_ne.mpr (by have := HU.out i3 hlt3; rw [hcs3] at this; omega)
            have HC3 := Aside0.mk hdc
            clear hdc hc3
            by_cases hdg3 : 48 ≤ c3.toNat ∧ c3.toNat ≤ 57
            · have hid : isD c3 = true := decide_eq_true hdg3
              obtain ⟨d0, d1⟩ := hdg3
              replace hid := Aside0.mk hid
              by_cases h4 : e < 10000
              · have H4 := Aside0.mk h4
                go_wp2_with fail
                go_roundg k1
                case rel =>
                  refine ⟨i3 + 1, e * 10 + (c3.toNat : Int) - 48, by go_num, rfl, by first | rfl | go_num, by omega, by omega, by omega, ⟨?_⟩, rfl⟩
                  rw [← HE.out, HC3.out, escan_cons, if_pos hid.out, if_pos H4.out]
                case measure => exact Nat.lt_succ_self _
              · have H4 := Aside0.mk h4
                go_wp2_with fail
                go_roundg k1
                case rel =>
                  refine ⟨i3 + 1, e, by go_num, rfl, rfl, by omega, by omega, by omega, ⟨?_⟩, rfl⟩
                  rw [← HE.out, HC3.out, escan_cons, if_pos hid.out, if_neg (by have := H4.out; omega)]
                case measure => exact Nat.lt_succ_self _
            · have hid : isD c3 = false := decide_eq_false hdg3
              replace hid := Aside0.mk hid
              have hsp : c3.toNat < 48 ∨ 57 < c3.toNat := by omega
              clear hdg3
              rcases hsp with hsp | hsp
              · go_wp2_with fail
                go_meet
                case rel =>
                  refine ⟨i3, e, rfl, rfl, rfl, by omega, he0, he1, ⟨?_⟩, rfl⟩
                  rw [← HE.out, HC3.out, escan_cons, if_neg (by rw [hid.out]; decide)]
              · go_wp2_with fail
                go_meet
                case rel =>
                  refine ⟨i3, e, rfl, rfl, rfl, by omega, he0, he1, ⟨?_⟩, rfl⟩
                  rw [← HE.out, HC3.out, escan_cons, if_neg (by rw [hid.out]; decide)]
      case rest =>
        obtain ⟨i3, e, rfl, rfl, rfl, hi3, he0, he1, HE, rfl⟩ := hcut
        clear hcs2 d0 d1 hlt2
        have hrs : readF L = some (rfin b st (e * gs) (s.data.toList.drop i3)) := by rw [hF2.out, hX2.out, HE.out]; rfl
        obtain ⟨y, hy⟩ : ∃ y, y = e * gs := ⟨_, rfl⟩
        rw [← hy] at hrs
        have hyb : -99999 ≤ y ∧ y ≤ 99999 := by
          rcases hgs with h | h
          · rw [h] at hy; omega
          · rw [h] at hy; omega
        obtain ⟨hy0, hy1⟩ := hyb
        have a1 : wrap64 (e * gs) = y := by rw [hy]; unfold wrap64; omega
        have HGS := Aside0.mk hy
        clear hgs hy
        have hN := Aside0.mk hrs
        clear hrs
        go_wp2_with fail
        refine hK2.out _ _ ?_
        refine read_end s L ng w (rfin b st y (s.data.toList.drop i3)) i3 (dp + y) nm hi3 hN.out rfl ?_ hr0 (by omega) (by omega) (by omega) _ rfl rfl rfl rfl rfl rfl ?_ rfl rfl rfl rfl rfl
        · show (if st.man = 0 then 0 else rdp b st + y - rnm b st) = _
          rw [HQ.out.1, HQ.out.2]; rfl
        · show some (Value.bool hx) = some (Value.bool (decide (b = 16)))
          rw [HBX.out]
    · have hid : isD c2 = false := decide_eq_false hdg2
      have hN : readF L = none := by rw [hF2.out, hX2, if_neg (by rw [hid]; decide)]; rfl
      replace hN := Aside0.mk hN
      have hsp : c2.toNat < 48 ∨ 57 < c2.toNat := by omega
      clear hX2 hid hdg2
      rcases hsp with hsp | hsp
      · go_wp2_with fail
        refine bodyPost_ret (results_tmp7 rfl _ _ _) rfl ?_
        exact ⟨rfl, .inl ⟨_, _, _, _, _, _, hN.out, rfl⟩⟩
      · go_wp2_with fail
        refine bodyPost_ret (results_tmp7 rfl _ _ _) rfl ?_
        exact ⟨rfl, .inl ⟨_, _, _, _, _, _, hN.out, rfl⟩⟩
end Go.Proofs.YtlkbhmmelejmjaaDoor.FltReadA
