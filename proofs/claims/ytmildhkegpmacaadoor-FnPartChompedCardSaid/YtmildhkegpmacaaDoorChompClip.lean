/- The walk of bufferedSrc without a sign: one line feed is left. -/
import Derived.Test.YtmildhkegpmacaaDoorChompBuf
namespace Go.Proofs.YtmildhkegpmacaaDoor.ChompClip
open Go.RowKit Go.Proofs.YtmildhkegpmacaaDoorW.PrintWords Go.Proofs.YtmildhkegpmacaaDoor.Utf Go.Proofs.YtmildhkegpmacaaDoor.ChompWalks Go.Proofs.YtmildhkegpmacaaDoor.ChompPure Go.Proofs.YtmildhkegpmacaaDoor.ChompBuf Go.Proofs.YtmildhkegpmacaaDoor.PFnPartChomped
open Go.Proofs.YtmildhkegpmacaaDoor.Runes (Reads)
set_option linter.unusedVariables false
set_option linter.unusedSimpArgs false

theorem feeds_scalar (rs : List Int) (m : Nat) (hsc : ∀ r ∈ rs, Scalar r) : ∀ r ∈ rs ++ List.replicate m 10, Scalar r := fun r hr => by
  rcases List.mem_append.1 hr with h | h
  · exact hsc r h
  · rw [List.eq_of_mem_replicate h]; exact ⟨by omega, by omega⟩

set_option maxHeartbeats 4000000 in
set_option maxRecDepth 100000 in
theorem clip_any (g m gb n cap : Nat) (rs : List Int) (q : Nat) (w : World) (h : At w g m ⟨#[]⟩ gb n cap (rs ++ List.replicate q 10)) (hsc : ∀ r ∈ rs, Scalar r) (hn2 : (enc rs).length ≤ 5000) (hq : q ≤ 100)
    (hne : enc rs ≠ []) (h10 : (enc rs).getLast? ≠ some 10) (hl10 : rs.getD (rs.length - 1) 0 ≠ 10) :
    Calls Tryd.prog 64 #[.pointer (some ⟨g, 0, none⟩)] w (Back (rs ++ List.replicate (min q 1) 10) w) := by
  have HA := Aside0.mk h
  obtain ⟨⟨idx, size, nsop, src, obuf, tok, hctx⟩, _, hnL, hcap, hrd⟩ := h
  have x5 := blk_cell hctx 5
  have x2 := blk_cell hctx 2
  simp only [List.getElem?_toArray, List.getElem?_cons_succ, List.getElem?_cons_zero] at x5 x2
  have HR := Aside0.mk hrd
  have hrl := (enc_length rs).1
  have hrp : 1 ≤ rs.length := by
    cases rs with
    | nil => exact absurd rfl hne
    | cons a b => simp
  obtain ⟨N1, hN1⟩ : ∃ N1, N1 = rs.length := ⟨_, rfl⟩
  have hnn : n = N1 + q := by rw [hnL, hN1]; simp
  have HTS : Aside0 (∀ W g n cap k, n = N1 + k → Reads W g (rs ++ List.replicate k 10) → (convert 57 9 (.slice (some ⟨g, 0, none⟩) n cap)).run Tryd.prog W = .ok (.string (E (enc rs) k)) W) := ⟨fun W g n cap k hn hW => by
    have h := to_str W g _ n cap (by rw [hn, hN1]; simp) hW (feeds_scalar rs k hsc)
    rw [enc_E] at h
    exact h⟩
  have HTR := Aside0.mk fun W k n (hk : k ≤ 100) (hn : n = N1 + k) => to_runes (E (enc rs) k) (rs ++ List.replicate k 10) n (by rw [hn, hN1]; simp) (by rw [E_size]; omega) (feeds_scalar rs k hsc) (by rw [enc_E]; rfl) W
  have HNR := Aside0.mk fun W k C => new_reads (E (enc rs) k) (rs ++ List.replicate k 10) (feeds_scalar rs k hsc) (by rw [enc_E]; rfl) W C
  have HTF := Aside0.mk fun k (hk : k ≤ 100) => trimSuffix_f (enc rs) k (by omega) (by omega)
  have HNF := Aside0.mk fun k => ne_feed (enc rs) k hne h10
  have HC10 : Aside0 (∀ t, t < q → (rs ++ List.replicate q 10).getD (n - 1 - t) 0 = 10) := ⟨fun t ht => by
    rw [List.getD_eq_getElem?_getD, List.getElem?_append_right (by omega), List.getElem?_replicate, if_pos (by omega)]; rfl⟩
  have HCL : Aside0 ((rs ++ List.replicate q 10).getD (N1 - 1) 0 ≠ 10) := ⟨by
    rw [List.getD_eq_getElem?_getD, List.getElem?_append_left (by omega), hN1, ← List.getD_eq_getElem?_getD]; exact hl10⟩
  have HLL : Aside0 ((rs ++ List.replicate q 10).length = n) := ⟨hnL.symm⟩
  have hN5 : N1 ≤ 5000 := by omega
  have hnle : n ≤ N1 + q := by omega
  have hnge : N1 + q ≤ n := by omega
  rw [← hN1] at hrp
  have HN1 := Aside0.mk hN1
  clear hctx hrd hnL hsc hN1 hne h10 hl10 hrl hn2 hnn
  go_enter Tryd.func64, Tryd.ntmps64
  go_wp2_with fail
  go_quiet (fail)
  have A1 := Aside0.mk (HA.out.drew nq)
  have B1 := Aside0.mk (Drawn0.below (w := w) (w' := w.drewN nq) ⟨⟨nq, rfl⟩⟩)
  have R1 := Aside0.mk (HR.out.below B1.out)
  obtain ⟨w1, hw1⟩ : ∃ w1, w1 = w.drewN nq := ⟨_, rfl⟩
  rw [← hw1] at A1 B1 R1 ⊢
  clear hw1 x5 x2
  go_wp2_with fail
  refine A1.out.multi.mono ?_
  rintro e w2 ⟨rfl, ⟨m2, rfl⟩⟩
  go_wp2_with fail
  refine (A1.out.drew _).state.mono ?_
  rintro e w3 ⟨rfl, ⟨m3, rfl⟩⟩
  go_wp2_with fail
  refine ((A1.out.drew _).trims _ _ pre0_45 suf0_45).mono ?_
  rintro e w4 ⟨rfl, ⟨m4, rfl⟩⟩
  go_wp2_with fail
  refine ((A1.out.drew _).keeps _ _ pre0_43 suf0_43).mono ?_
  rintro e w5 ⟨rfl, b5⟩
  have A5 := Aside0.mk ((A1.out.drew _).below b5.below)
  have B5 := Aside0.mk (B1.out.trans (((Drawn0.below ⟨⟨_, rfl⟩⟩).trans b5.below).mono B1.out.size))
  have R5 := Aside0.mk ((R1.out.below (Drawn0.below ⟨⟨_, rfl⟩⟩)).below b5.below)
  clear b5 A1 B1 R1
  go_wp2_with fail
  go_loopw [5, 6] (fun c i wr => ∃ t p : Nat, t ≤ q ∧ p + 1 + t = n ∧ c = .int .i64 t ∧ i = .int .i64 p ∧ Aside0 (wr = w5)) (fun c _ _ => n - (intOf c).toNat)
  case atStart => exact ⟨0, n - 1, by omega, by omega, rfl, by go_num, ⟨rfl⟩⟩
  case round =>
    obtain ⟨t, p, ht, hp, rfl, rfl, ⟨rfl⟩⟩ := hrel
    by_cases hlt : t < q
    · have hcell := R5.out p (by have := HLL.out; omega)
      rw [show p = n - 1 - t by omega, HC10.out t hlt, show n - 1 - t = p by omega] at hcell
      go_wp2_with fail
      go_roundw
      case rel => exact ⟨t + 1, p - 1, by omega, by omega, by go_num, by go_num, ⟨by trivial⟩⟩
      case measure => simp [intOf]; omega
    · obtain rfl : t = q := by omega
      have hcell := R5.out p (by have := HLL.out; omega)
      rw [show p = N1 - 1 by omega] at hcell
      obtain ⟨c, hc⟩ : ∃ c, c = (rs ++ List.replicate t 10).getD (N1 - 1) 0 := ⟨_, rfl⟩
      rw [← hc] at hcell HCL
      rw [show N1 - 1 = p by omega] at hcell
      have hc10 : (c == 10) = false := beq_eq_false_iff_ne.mpr HCL.out
      clear hc hlt
      go_wp2_with fail
      go_loopw [3, 7] (fun s r wx => ∃ j gs ns cs : Nat, s = .slice (some ⟨gs, 0, none⟩) ns cs ∧ Aside0 (ns = N1 + (t - j)) ∧ (j = 0 ∨ j + 1 ≤ t) ∧ r = .int .i64 ((t : Int) - 1 - j) ∧ Aside0 (Reads wx gs (rs ++ List.replicate (t - j) 10)) ∧ Aside0 (At wx g m ⟨#[]⟩ gb n cap (rs ++ List.replicate t 10)) ∧ Aside0 (Below w.heap.size w wx)) (fun _ r _ => (intOf r).toNat)
      case atStart => exact ⟨0, gb, n, cap, rfl, ⟨by omega⟩, .inl rfl, by go_num, R5, A5, B5⟩
      case round =>
        obtain ⟨j, gs, ns, cs, rfl, hns, hj, rfl, HRx, HAx, HBx⟩ := hrel
        by_cases hgo : j + 1 < t
        · obtain ⟨k, hk⟩ : ∃ k, t - j = k + 1 := ⟨t - j - 1, by omega⟩
          rw [hk] at HRx
          have hts := HTS.out _ gs ns cs (k + 1) (by have := hns.out; omega) HRx.out
          have HF := Aside0.mk (HTF.out k (by omega))
          have HR1 := Aside0.mk fun W => HTR.out W k (N1 + k) (by omega) rfl
          have HN1' := Aside0.mk fun W C => HNR.out W k C
          obtain ⟨S1, hS1⟩ : ∃ S1, S1 = E (enc rs) (k + 1) := ⟨_, rfl⟩
          rw [← hS1] at hts HF
          obtain ⟨S0, hS0⟩ : ∃ S0, S0 = E (enc rs) k := ⟨_, rfl⟩
          rw [← hS0] at HF HR1 HN1'
          have HK := Aside0.mk hk
          have hk100 : k ≤ 100 := by omega
          clear hS1 hS0 hk
          go_wp2_with fail
          refine (strings_TrimSuffix.calls S1 ⟨#[10]⟩ S0 _ HF.out).mono ?_
          rintro e w7 ⟨rfl, b7⟩
          have A7 := Aside0.mk (HAx.out.below b7.below)
          have B7 := Aside0.mk (HBx.out.trans (b7.below.mono HBx.out.size))
          clear b7 hts
          have hrn := HR1.out w7
          have R8 := Aside0.mk (HN1'.out w7 (Array.replicate (grownCap w7 (N1 + k) 0 21 - (N1 + k)) (.int .i32 0)))
          have A8 := Aside0.mk (A7.out.below (((Below.refl _ w7).alloc (Nat.le_refl _) (.cells (Conv.runesFrom S0 S0.size 0 #[] ++ Array.replicate (grownCap w7 (N1 + k) 0 21 - (N1 + k)) (.int .i32 0)) 21)).drew))
          have B8 := Aside0.mk (grow (o := (.cells (Conv.runesFrom S0 S0.size 0 #[] ++ Array.replicate (grownCap w7 (N1 + k) 0 21 - (N1 + k)) (.int .i32 0)) 21)) B7.out (Drawn0.refl _))
          go_wp2_with fail
          clear hrn
          go_roundw
          case rel => exact ⟨j + 1, _, _, _, rfl, ⟨by have := HK.out; omega⟩, .inr (by omega), by go_num, by rw [show t - (j + 1) = k by have := HK.out; omega]; exact R8, A8, B8⟩
          case measure => simp [intOf]; omega
        · have hk : t - j = min t 1 := by omega
          rw [hk] at HRx
          have hts := HTS.out _ gs ns cs (min t 1) (by have := hns.out; omega) HRx.out
          have hnf := HNF.out (min t 1)
          obtain ⟨S1, hS1⟩ : ∃ S1, S1 = E (enc rs) (min t 1) := ⟨_, rfl⟩
          rw [← hS1] at hts hnf
          have HS1 := Aside0.mk hS1
          obtain ⟨wy, hwy⟩ : ∃ wy, wy = wr := ⟨_, rfl⟩
          rw [← hwy] at hts HRx HAx HBx ⊢
          have hns1 : 1 ≤ ns := by have := hns.out; omega
          have HK := Aside0.mk hk
          clear hS1 hwy hk
          have HNS : Aside0 (ns = (rs ++ List.replicate (min t 1) 10).length) := ⟨by rw [List.length_append, List.length_replicate, ← HN1.out]; have := hns.out; have := HK.out; omega⟩
          have hns0 : ((ns : Int) == 0) = false := by
            have : (ns : Int) ≠ 0 := by omega
            simpa using this
          clear hts
          go_wp2_with fail
          refine (HAx.out.trims _ _ pre0_45 suf0_45).mono ?_
          rintro e w8 ⟨rfl, ⟨m8, rfl⟩⟩
          have hts := HTS.out (wy.drewN m8) gs ns cs (min t 1) (by have := hns.out; have := HK.out; omega) (HRx.out.below (Drawn0.below ⟨⟨m8, rfl⟩⟩))
          rw [← HS1.out] at hts
          go_wp2_with fail
          refine ((HAx.out.drew _).keeps _ _ pre0_43 suf0_43).mono ?_
          rintro e w9 ⟨rfl, ⟨m9, rfl⟩⟩
          go_wp2_with fail
          go_ret
          exact ⟨gs, ns, cs, rfl, HNS.out, HRx.out.below (Drawn0.below ⟨⟨_, rfl⟩⟩), HBx.out.trans ((Drawn0.below ⟨⟨_, rfl⟩⟩).mono HBx.out.size)⟩
end Go.Proofs.YtmildhkegpmacaaDoor.ChompClip
