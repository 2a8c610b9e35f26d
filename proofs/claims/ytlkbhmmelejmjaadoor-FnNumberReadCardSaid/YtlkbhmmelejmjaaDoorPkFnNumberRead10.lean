/- Parts of the proof of FnNumberRead, one behind the other: AsRest, AsIs, AsFis, FltSign, AsSgn, RdTold, RdLaw. Each part says ahead of itself what it proves. -/
import Derived.Test.YtlkbhmmelejmjaaDoorPkFnNumberRead9
import Derived.Test.YtlkbhmmelejmjaaDoorPkFnNumberRead7
import Derived.Laws.BitsAllLaws

/- AsNumber, at texts that are of base 10 or floats. -/
namespace Go.Proofs.YtlkbhmmelejmjaaDoor.AsRest
open Go.RowKit Go.Proofs.YtlkbhmmelejmjaaDoorW.PrintWords Go.Proofs.YtlkbhmmelejmjaaDoor.AsNum Go.Proofs.YtlkbhmmelejmjaaDoor.AsDig Go.Proofs.YtlkbhmmelejmjaaDoor.AsFlo Go.Proofs.YtlkbhmmelejmjaaDoor.AsWalk Go.Proofs.YtlkbhmmelejmjaaDoor.NumErr Go.Proofs.YtlkbhmmelejmjaaDoor.FltAtof Go.Proofs.YtlkbhmmelejmjaaDoor.FltParse
set_option linter.unusedVariables false
set_option linter.unusedSimpArgs false
attribute [local go_sem ↓] Go.wp_at_zero Go.wp_at_succ
attribute [local go_sem] run_store_float unary_negf

set_option maxHeartbeats 1000000 in
set_option maxRecDepth 100000 in
theorem as_rest (B : Nat) (H O X : Nat → Nat) (EV : Nat → Value) (s : ByteArray) (hs : s.size ≤ 100) (c0 c1 : Int) (h0 : ∀ h, ((s[0]'h).toNat : Int) = c0) (h1 : ∀ h, ((s[1]'h).toNat : Int) = c1) (hn : ¬ (2 < s.size ∧ c0 = 48 ∧ (c1 = 111 ∨ c1 = 120))) (w : World) (hB : B ≤ w.heap.size) (hT : Tabs B H O X w) (hE : Errs B EV w) : Calls Tryd.prog 11 #[.string s] w (AsP H O X s w) := by
  have d0 : decide ((100 : Int) < (s.size : Int)) = false := decide_eq_false (by omega)
  have CD := Aside0.mk (dig_walk 10 (by omega) (by omega))
  have CR := Aside0.mk run_walk
  have CF := Aside0.mk flo_walk
  have CP := Aside0.mk (fun (t : ByteArray) (h1 : t.size ≤ 100) (h2 : ∀ c ∈ t.data.toList, c.toNat ≠ 95) (W : World) (hW : Below w.heap.size w W) => float_any B H O X EV t (by omega) (fun i hi => h2 _ (List.getElem_mem (l := t.data.toList) (by rw [← Lib.size_eq]; exact hi))) W (Nat.le_trans hB hW.size) (hT.keep hW hB) (hE.keep hW hB))
  clear hB hT hE
  go_enter Tryd.func11, Tryd.ntmps11
  go_upto_region 1 with (fail)
  generalize hW : w.alloc _ = W
  have hz : W.heap[w.heap.size]? = some nb0 := by rw [← hW]; exact blk_new w _
  have hB : Below w.heap.size w W := by rw [← hW]; exact (Below.refl _ _).alloc (Nat.le_refl _) _
  clear hW
  have HZ := Aside0.mk hz
  have HB := Aside0.mk hB
  clear hz hB
  have HN := Aside0.mk hn
  clear hn
  go_upto_region 3 with (fail)
  go_cut [34] (fun v34 wc => v34 = .bool false ∧ W = wc)
  case first =>
    by_cases h2 : 2 < s.size
    · have d2 : decide ((2 : Int) < (s.size : Int)) = true := decide_eq_true (by omega)
      have l1 : 1 < s.size := by omega
      have l0 : 0 < s.size := by omega
      by_cases q0 : c0 = 48
      · have q48 : (c0 == 48) = true := by rw [q0]; rfl
        have q111 : (c1 == 111) = false := beq_eq_false_iff_ne.mpr fun h => HN.out ⟨h2, q0, .inl h⟩
        have q120 : (c1 == 120) = false := beq_eq_false_iff_ne.mpr fun h => HN.out ⟨h2, q0, .inr h⟩
        clear q0 h2
        go_wp2_with fail
        go_meet
        case rel => exact ⟨rfl, rfl⟩
      · have q48 : (c0 == 48) = false := beq_eq_false_iff_ne.mpr q0
        clear q0 h2
        go_wp2_with fail
        go_meet
        case rel => exact ⟨rfl, rfl⟩
    · have d2 : decide ((2 : Int) < (s.size : Int)) = false := decide_eq_false (by omega)
      clear h2
      go_wp2_with fail
      go_meet
      case rel => exact ⟨rfl, rfl⟩
  case rest =>
    obtain ⟨rfl, rfl⟩ := hcut
    go_upto_region 12 with (fail)
    go_cut [64] (fun v64 wc => ∃ (x : Bool), v64 = .bool x ∧ Aside0 (x = true → 0 < s.size ∧ (c0 = 45 ∨ c0 = 43)) ∧ W = wc)
    case first =>
      by_cases hu : s.size = 0
      · have hz := emp_t s hu
        clear hu
        go_wp2_with fail
        go_meet
        case rel => exact ⟨false, rfl, ⟨fun h => by cases h⟩, rfl⟩
      · have hp : 0 < s.size := by omega
        have hz := emp_f s hp
        by_cases q1 : c0 = 45
        · have e1 : (c0 == 45) = true := by rw [q1]; rfl
          have Q1 := Aside0.mk q1
          clear q1
          go_wp2_with fail
          go_meet
          case rel => exact ⟨true, rfl, ⟨fun _ => ⟨hp, .inl Q1.out⟩⟩, rfl⟩
        have e1 : (c0 == 45) = false := beq_eq_false_iff_ne.mpr q1
        clear q1
        by_cases q2 : c0 = 43
        · have e2 : (c0 == 43) = true := by rw [q2]; rfl
          have Q2 := Aside0.mk q2
          clear q2
          go_wp2_with fail
          go_meet
          case rel => exact ⟨true, rfl, ⟨fun _ => ⟨hp, .inr Q2.out⟩⟩, rfl⟩
        have e2 : (c0 == 43) = false := beq_eq_false_iff_ne.mpr q2
        clear q2
        go_wp2_with fail
        go_meet
        case rel => exact ⟨false, rfl, ⟨fun h => by cases h⟩, rfl⟩
    case rest =>
      obtain ⟨x, rfl, HX, rfl⟩ := hcut
      go_upto_if 64 with (fail)
      go_cut [6, 7] (fun v6 v7 wc => ∃ (t : ByteArray) (mi : Bool), v6 = .string t ∧ v7 = .bool mi ∧ t.size ≤ 100 ∧ Aside0 (SgT mi s.data.toList t.data.toList ∧ wc.heap[w.heap.size]? = some nb0 ∧ Below w.heap.size w wc))
      case first =>
        cases x
        · go_wp2_with fail
          go_meet
          case rel => exact ⟨s, false, rfl, rfl, hs, ⟨.inl ⟨rfl, rfl⟩, HZ.out, HB.out⟩⟩
        · obtain ⟨hp, hc⟩ := HX.out rfl
          have hp1 : 1 ≤ s.size := hp
          obtain ⟨y, hy, hyc⟩ : ∃ y : Bool, (c0 == 45) = y ∧ ((y = true ∧ c0 = 45) ∨ (y = false ∧ c0 = 43)) := by
            rcases hc with h | h
            · exact ⟨true, by rw [h]; rfl, .inl ⟨rfl, h⟩⟩
            · exact ⟨false, by rw [h]; rfl, .inr ⟨rfl, h⟩⟩
          have HYC := Aside0.mk hyc
          clear hc hyc
          go_wp2_with fail
          go_quiet (fail)
          go_wp2
          go_meet
          case rel =>
            obtain ⟨y1, r1, g1, g2, g3⟩ := cons_is hp h0
            refine ⟨s.extract 1 s.size, y, rfl, rfl, by rw [ByteArray.size_extract]; omega, ⟨.inr ⟨y1, by rw [g3]; exact g1, ?_⟩, HZ.out, pw_below_drewN HB.out nq⟩⟩
            rcases HYC.out with ⟨h, hh⟩ | ⟨h, hh⟩
            · exact .inl ⟨h, by omega⟩
            · exact .inr ⟨h, by omega⟩
      case rest =>
        obtain ⟨t, mi, rfl, rfl, hts, HS⟩ := hcut
        clear HX HN h0 h1
        have hts2 : t.size ≤ 140737488351232 := by omega
        go_wp2_with fail
        refine (CR.out t hts2 _).mono ?_
        rintro e w' ⟨rfl, n, rfl, hn, hd⟩
        have HD := Aside0.mk hd
        clear hd
        by_cases hall : 0 < n ∧ n = t.size
        · obtain ⟨hn0, hnt⟩ := hall
          have HDT : Aside0 (Dg t.data.toList) := ⟨by
            have := HD.out
            rw [hnt, Lib.size_eq, List.take_length] at this
            exact this⟩
          have d1 : decide ((0 : Int) < (n : Int)) = true := decide_eq_true (by omega)
          have q1 : ((n : Int) == (t.size : Int)) = true := by rw [hnt]; exact beq_self_eq_true _
          have HNT := Aside0.mk hnt
          clear hnt
          go_wp2_with fail
          refine (CD.out t hts2 _).mono ?_
          rintro e w1 ⟨b1, v, ok, rfl, hok⟩
          have hz := blk_below HS.out.2.1 b1
          have hB := HS.out.2.2.trans (b1.mono HS.out.2.2.size)
          obtain ⟨z0, z1, z2, z3, z4⟩ := nb_facts hz
          have f0 := blk_frozen hz 0
          have f1 := blk_frozen hz 1
          have f2 := blk_frozen hz 2
          have f3 := blk_frozen hz 3
          have f4 := blk_frozen hz 4
          have HZ1 := Aside0.mk hz
          have HB1 := Aside0.mk hB
          clear hz hB
          have HOK := Aside0.mk hok
          clear b1 hok
          cases ok
          case false =>
            go_wp2_with fail
            exact bodyPost_ret (results_single rfl (.cell w.heap.size 30 _ (0, 0) _ rfl (set5_blk w1 w.heap.size 0 0 false 0 0 HZ1.out) Tryd.underlying30 rfl (by kernel_rfl) .nil)) rfl (as_zero ⟨set5_below w w1 w.heap.size w.heap.size 0 0 false 0 0 HB1.out (Nat.le_refl _), rfl⟩)
          case true =>
            obtain ⟨c, hc⟩ := first_any t
            have l0 : 0 < t.size := by have := HNT.out; omega
            by_cases hbad : 1 < n ∧ c = 48
            · have d2 : decide ((1 : Int) < (n : Int)) = true := decide_eq_true (by omega)
              have q48 : (c == 48) = true := by rw [hbad.2]; rfl
              clear hbad
              go_wp2_with fail
              exact bodyPost_ret (results_single rfl (.cell w.heap.size 30 _ (0, 0) _ rfl (set5_blk w1 w.heap.size 0 0 false 0 0 HZ1.out) Tryd.underlying30 rfl (by kernel_rfl) .nil)) rfl (as_zero ⟨set5_below w w1 w.heap.size w.heap.size 0 0 false 0 0 HB1.out (Nat.le_refl _), rfl⟩)
            have hgo : (decide ((1 : Int) < (n : Int)) = false) ∨ (decide ((1 : Int) < (n : Int)) = true ∧ (c == 48) = false) := by
              by_cases h1 : 1 < n
              · exact .inr ⟨decide_eq_true (by omega), beq_eq_false_iff_ne.mpr fun h => hbad ⟨h1, h⟩⟩
              · exact .inl (decide_eq_false (by omega))
            have HG : Aside0 (t.data.toList.length = 1 ∨ ∀ y r, t.data.toList = y :: r → y.toNat ≠ 48) := ⟨by
              have hl := Lib.size_eq t
              have := HNT.out
              by_cases h1 : n = 1
              · left; omega
              · refine .inr fun x r hx h48 => hbad ⟨by omega, ?_⟩
                have e1 := cons_of t l0
                rw [e1] at hx
                injection hx with hx _
                have := hc l0
                rw [hx] at this
                omega⟩
            have HNE : Aside0 (t.data.toList ≠ []) := ⟨fun h => by rw [cons_of t l0] at h; cases h⟩
            clear hbad
            by_cases hm : mi = true ∧ 9223372036854775808 < v
            · obtain ⟨rfl, hv⟩ := hm
              have d3 : decide (9223372036854775808 < v) = true := decide_eq_true hv
              rcases hgo with d2 | ⟨d2, q48⟩
              · go_wp2_with fail
                exact bodyPost_ret (results_single rfl (.cell w.heap.size 30 _ (0, 0) _ rfl (set5_blk w1 w.heap.size 0 0 false 0 0 HZ1.out) Tryd.underlying30 rfl (by kernel_rfl) .nil)) rfl (as_zero ⟨set5_below w w1 w.heap.size w.heap.size 0 0 false 0 0 HB1.out (Nat.le_refl _), rfl⟩)
              · go_wp2_with fail
                exact bodyPost_ret (results_single rfl (.cell w.heap.size 30 _ (0, 0) _ rfl (set5_blk w1 w.heap.size 0 0 false 0 0 HZ1.out) Tryd.underlying30 rfl (by kernel_rfl) .nil)) rfl (as_zero ⟨set5_below w w1 w.heap.size w.heap.size 0 0 false 0 0 HB1.out (Nat.le_refl _), rfl⟩)
            · have HM : Aside0 (mi = true → v ≤ 9223372036854775808) := ⟨fun h => Int.not_lt.1 fun h2 => hm ⟨h, h2⟩⟩
              have fin : AsF H O X s 1 10 mi v 0 ∧ ((1 : Int) ≠ 0 → s.size ≤ 100 ∧ 0 ≤ v ∧ v ≤ 18446744073709551615) := by
                obtain ⟨e1, e2, e3, e4⟩ := HOK.out (by first | rfl | trivial)
                exact ⟨.inr (.inr (.inl ⟨rfl, rfl, _, HS.out.1, HDT.out, HNE.out, HG.out, e4, HM.out⟩)), fun _ => ⟨hs, e2, e3⟩⟩
              have FIN := Aside0.mk fin
              clear fin
              have hmm : mi = false ∨ (mi = true ∧ decide (9223372036854775808 < v) = false) := by
                cases mi
                · exact .inl rfl
                · exact .inr ⟨rfl, decide_eq_false fun h => hm ⟨rfl, h⟩⟩
              clear hm HM
              rcases hmm with rfl | ⟨rfl, d3⟩
              · rcases hgo with d2 | ⟨d2, q48⟩
                · go_wp2_with fail
                  exact bodyPost_ret (results_single rfl (.cell w.heap.size 30 _ (0, 0) _ rfl (set5_blk w1 w.heap.size 1 10 false v 0 HZ1.out) Tryd.underlying30 rfl (by kernel_rfl) .nil)) rfl ⟨set5_below w w1 w.heap.size w.heap.size 1 10 false v 0 HB1.out (Nat.le_refl _), 1, 10, false, v, 0, rfl, FIN.out⟩
                · go_wp2_with fail
                  exact bodyPost_ret (results_single rfl (.cell w.heap.size 30 _ (0, 0) _ rfl (set5_blk w1 w.heap.size 1 10 false v 0 HZ1.out) Tryd.underlying30 rfl (by kernel_rfl) .nil)) rfl ⟨set5_below w w1 w.heap.size w.heap.size 1 10 false v 0 HB1.out (Nat.le_refl _), 1, 10, false, v, 0, rfl, FIN.out⟩
              · rcases hgo with d2 | ⟨d2, q48⟩
                · go_wp2_with fail
                  exact bodyPost_ret (results_single rfl (.cell w.heap.size 30 _ (0, 0) _ rfl (set5_blk w1 w.heap.size 1 10 true v 0 HZ1.out) Tryd.underlying30 rfl (by kernel_rfl) .nil)) rfl ⟨set5_below w w1 w.heap.size w.heap.size 1 10 true v 0 HB1.out (Nat.le_refl _), 1, 10, true, v, 0, rfl, FIN.out⟩
                · go_wp2_with fail
                  exact bodyPost_ret (results_single rfl (.cell w.heap.size 30 _ (0, 0) _ rfl (set5_blk w1 w.heap.size 1 10 true v 0 HZ1.out) Tryd.underlying30 rfl (by kernel_rfl) .nil)) rfl ⟨set5_below w w1 w.heap.size w.heap.size 1 10 true v 0 HB1.out (Nat.le_refl _), 1, 10, true, v, 0, rfl, FIN.out⟩
        · have hfl : n = 0 ∨ (decide ((0 : Int) < (n : Int)) = true ∧ 0 < n ∧ ¬ n = t.size ∧ (n == t.size) = false ∧ ((n : Int) == (t.size : Int)) = false) := by
            by_cases h1 : 0 < n
            · exact .inr ⟨decide_eq_true (by omega), h1, fun h => hall ⟨h1, h⟩, beq_eq_false_iff_ne.mpr fun h => hall ⟨h1, h⟩, beq_eq_false_iff_ne.mpr fun h => hall ⟨h1, by omega⟩⟩
            · exact .inl (by omega)
          clear hall HD
          rename_i wc
          rcases hfl with rfl | ⟨d1, d2, d3, q1, q2⟩
          all_goals
            go_upto_region 20 with (fail)
            go_wp2_with fail
            refine (CF.out t hts2 _).mono ?_
            rintro e w' ⟨rfl, b, rfl, hb⟩
            cases b
            case false =>
              clear hb
              have hz := HS.out.2.1
              have hB := HS.out.2.2
              obtain ⟨z0, z1, z2, z3, z4⟩ := nb_facts hz
              have f0 := blk_frozen hz 0
              have f1 := blk_frozen hz 1
              have f2 := blk_frozen hz 2
              have f3 := blk_frozen hz 3
              have f4 := blk_frozen hz 4
              have HZ1 := Aside0.mk hz
              have HB1 := Aside0.mk hB
              clear hz hB
              go_wp2_with fail
              exact bodyPost_ret (results_single rfl (.cell w.heap.size 30 _ (0, 0) _ rfl (set5_blk wc w.heap.size 0 0 false 0 0 HZ1.out) Tryd.underlying30 rfl (by kernel_rfl) .nil)) rfl (as_zero ⟨set5_below w wc w.heap.size w.heap.size 0 0 false 0 0 HB1.out (Nat.le_refl _), rfl⟩)
            have HF := Aside0.mk (hb rfl)
            clear hb
            go_wp2_with fail
            refine (CP.out t hts (flo_no HF.out) _ HS.out.2.2).mono ?_
            rintro e w1 ⟨b1, ⟨hk, rfl⟩ | ⟨hk, v, N, fn, ss, rfl, _, _⟩⟩
            · have hz := blk_below HS.out.2.1 b1
              have hB := HS.out.2.2.trans (b1.mono HS.out.2.2.size)
              obtain ⟨z0, z1, z2, z3, z4⟩ := nb_facts hz
              have f0 := blk_frozen hz 0
              have f1 := blk_frozen hz 1
              have f2 := blk_frozen hz 2
              have f3 := blk_frozen hz 3
              have f4 := blk_frozen hz 4
              have HZ1 := Aside0.mk hz
              have HB1 := Aside0.mk hB
              clear hz hB
              have HK := Aside0.mk hk
              clear b1 hk
              obtain ⟨f, hf⟩ : ∃ f, f = (parF H O X t).1 := ⟨_, rfl⟩
              rw [← hf]
              have HFF := Aside0.mk hf
              clear hf
              cases mi
              · go_wp2_with fail
                exact bodyPost_ret (results_single rfl (.cell w.heap.size 30 _ (0, 0) _ rfl (set5_blk w1 w.heap.size 2 10 false 0 f HZ1.out) Tryd.underlying30 rfl (by kernel_rfl) .nil)) rfl ⟨set5_below w w1 w.heap.size w.heap.size 2 10 false 0 f HB1.out (Nat.le_refl _), 2, 10, false, 0, f, rfl, .inr (.inr (.inr ⟨rfl, rfl, rfl, t, HS.out.1, HF.out, HK.out, HFF.out⟩)), fun _ => ⟨hs, by omega, by omega⟩⟩
              · go_wp2_with fail
                exact bodyPost_ret (results_single rfl (.cell w.heap.size 30 _ (0, 0) _ rfl (set5_blk w1 w.heap.size 2 10 true 0 (Op.negFloat .f64 f) HZ1.out) Tryd.underlying30 rfl (by kernel_rfl) .nil)) rfl ⟨set5_below w w1 w.heap.size w.heap.size 2 10 true 0 (Op.negFloat .f64 f) HB1.out (Nat.le_refl _), 2, 10, true, 0, _, rfl, .inr (.inr (.inr ⟨rfl, rfl, rfl, t, HS.out.1, HF.out, HK.out, by rw [HFF.out]; rfl⟩)), fun _ => ⟨hs, by omega, by omega⟩⟩
            · have hz := blk_below HS.out.2.1 b1
              have hB := HS.out.2.2.trans (b1.mono HS.out.2.2.size)
              obtain ⟨z0, z1, z2, z3, z4⟩ := nb_facts hz
              have f0 := blk_frozen hz 0
              have f1 := blk_frozen hz 1
              have f2 := blk_frozen hz 2
              have f3 := blk_frozen hz 3
              have f4 := blk_frozen hz 4
              have HZ1 := Aside0.mk hz
              have HB1 := Aside0.mk hB
              clear hz hB
              clear b1 hk
              go_wp2_with fail
              exact bodyPost_ret (results_single rfl (.cell w.heap.size 30 _ (0, 0) _ rfl (set5_blk w1 w.heap.size 0 0 false 0 0 HZ1.out) Tryd.underlying30 rfl (by kernel_rfl) .nil)) rfl (as_zero ⟨set5_below w w1 w.heap.size w.heap.size 0 0 false 0 0 HB1.out (Nat.le_refl _), rfl⟩)
end Go.Proofs.YtlkbhmmelejmjaaDoor.AsRest

/- What AsNumber calls a number, toNumber calls a number. -/
namespace Go.Proofs.YtlkbhmmelejmjaaDoor.AsIs
open Go.RowKit Go.Proofs.YtlkbhmmelejmjaaDoorW.PrintWords Go.Proofs.YtlkbhmmelejmjaaDoor.NumParse Go.Proofs.YtlkbhmmelejmjaaDoor.NumPure Go.Proofs.YtlkbhmmelejmjaaDoor.NumStrip Go.Proofs.YtlkbhmmelejmjaaDoor.NumErr Go.Proofs.YtlkbhmmelejmjaaDoor.NumInt Go.Proofs.YtlkbhmmelejmjaaDoor.NumAny Go.Proofs.YtlkbhmmelejmjaaDoor.NumAll Go.Proofs.YtlkbhmmelejmjaaDoor.FltAtof Go.Proofs.YtlkbhmmelejmjaaDoor.FltParse Go.Proofs.YtlkbhmmelejmjaaDoor.FltTextP Go.Proofs.YtlkbhmmelejmjaaDoor.FltSpecial Go.Proofs.YtlkbhmmelejmjaaDoor.AsNum Go.Proofs.YtlkbhmmelejmjaaDoor.AsDig Go.Proofs.YtlkbhmmelejmjaaDoor.AsFlo Go.Proofs.YtlkbhmmelejmjaaDoor.AsWalk Go.Proofs.YtlkbhmmelejmjaaDoor.AsRest
set_option linter.unusedVariables false
set_option linter.unusedSimpArgs false

/-- AsNumber at any text. -/
theorem as_any (B : Nat) (H O X : Nat → Nat) (EV : Nat → Value) (s : ByteArray) (w : World) (hB : B ≤ w.heap.size) (hT : Tabs B H O X w) (hE : Errs B EV w) : Calls Tryd.prog 11 #[.string s] w (AsP H O X s w) := by
  by_cases hs : s.size ≤ 100
  · obtain ⟨c0, h0⟩ := first_any s
    obtain ⟨c1, h1⟩ : ∃ c : Int, ∀ h, ((s[1]'h).toNat : Int) = c := by
      by_cases h : 1 < s.size
      · exact ⟨((s[1]'h).toNat : Int), fun _ => rfl⟩
      · exact ⟨0, fun h' => absurd h' h⟩
    by_cases hn : 2 < s.size ∧ c0 = 48 ∧ (c1 = 111 ∨ c1 = 120)
    · obtain ⟨h2, rfl, hc⟩ := hn
      exact as_based H O X s hs h2 c1 h0 h1 hc w
    · exact as_rest B H O X EV s hs c0 c1 h0 h1 hn w hB hT hE
  · exact (as_long s (by omega) w).mono fun e w' h => as_zero h

/-! The digits. -/
theorem dg_hex : ∀ c : Fin 256, 0 ≤ hexV (c.val : Int) → dg c.val = some (hexV (c.val : Int)).toNat := by decide +kernel
theorem dg_of (c : UInt8) (h : 0 ≤ hexV (c.toNat : Int)) : dg c.toNat = some (hexV (c.toNat : Int)).toNat := dg_hex ⟨c.toNat, c.toNat_lt⟩ h
theorem pu_of (b : Nat) (hb : 2 ≤ b) (hb2 : b ≤ 16) : ∀ (L : List UInt8) (n : Nat) (z : Int), digF (b : Int) L (n : Int) = some z → pu b n L = .ok z.toNat
  | [], n, z, h => by
    have : (n : Int) = z := Option.some.inj h
    rw [← this]; rfl
  | c :: r, n, z, h => by
    obtain ⟨d, hd⟩ : ∃ d : Int, d = hexV (c.toNat : Int) := ⟨_, rfl⟩
    have h' := (digF_step (b : Int) n d c r hd).symm.trans h
    by_cases hc : d < 0 ∨ (b : Int) ≤ d ∨ (18446744073709551615 - d) / (b : Int) < (n : Int)
    · rw [if_pos hc] at h'; cases h'
    rw [if_neg hc] at h'
    have g1 : 0 ≤ d := by omega
    have g2 : d < b := by omega
    have g3 : (n : Int) ≤ (18446744073709551615 - d) / (b : Int) := by omega
    have g4 : (n : Int) * b ≤ 18446744073709551615 - d := Int.mul_le_of_le_ediv (by omega) g3
    have hdg := dg_of c (by rw [← hd]; exact g1)
    rw [← hd] at hdg
    have g5 : n * b + d.toNat ≤ 18446744073709551615 := by
      have : ((n * b + d.toNat : Nat) : Int) = (n : Int) * b + d := by push_cast; omega
      omega
    have g6 : ¬ cut b ≤ n := by
      unfold cut
      have : n ≤ 18446744073709551615 / b := (Nat.le_div_iff_mul_le (by omega)).2 (by omega)
      omega
    rw [pu_step hdg (by omega) g6 (by omega)]
    refine pu_of b hb hb2 r _ z ?_
    rw [← h']
    congr 1
    push_cast
    omega

/-! The sign ahead. -/
theorem hp1 (s : ByteArray) (b c : UInt8) (r : List UInt8) (h : s.data.toList = c :: r) : hp s ⟨#[b]⟩ = (b == c) := by
  unfold hp
  rw [h]
  show [b].isPrefixOf (c :: r) = (b == c)
  simp [List.isPrefixOf]
theorem byte_eq {c : UInt8} {n : Nat} (h : c.toNat = n) (hn : n < 256) : c = UInt8.ofNat n := by
  apply UInt8.toNat_inj.1
  rw [h, UInt8.toNat_ofNat']
  omega
theorem tp1_no (s : ByteArray) (b : UInt8) (h : hp s ⟨#[b]⟩ = false) : tp s ⟨#[b]⟩ = s := by unfold tp; rw [h]; rfl
theorem tp1_yes (s : ByteArray) (b : UInt8) (h : hp s ⟨#[b]⟩ = true) : (tp s ⟨#[b]⟩).data.toList = s.data.toList.drop 1 := by
  unfold tp
  rw [if_pos h]
  exact ext_one s
theorem arr_list (L : List UInt8) : (⟨L.toArray⟩ : ByteArray).data.toList = L := by simp
theorem ba_eq {s t : ByteArray} (h : s.data.toList = t.data.toList) : s = t := ByteArray.ext (Array.ext' h)
theorem ne_dig {x b : UInt8} (hx : 48 ≤ x.toNat ∧ x.toNat ≤ 57) (hb : b.toNat < 48 ∨ 57 < b.toNat) : (b == x) = false := beq_eq_false_iff_ne.mpr fun h => by rw [h] at hb; omega
theorem shape {mi : Bool} {s t : ByteArray} {x : UInt8} {r : List UInt8} (hS : SgT mi s.data.toList t.data.toList) (hT : t.data.toList = x :: r) (hx : 48 ≤ x.toNat ∧ x.toNat ≤ 57) (hno : ∀ c ∈ t.data.toList, c.toNat ≠ 95) : s.size ≠ 0 ∧ hp s ⟨#[95]⟩ = false ∧ hp s ⟨#[45]⟩ = mi ∧ strip (tp (tp s ⟨#[43]⟩) ⟨#[45]⟩) = t ∧ cnt 46 s = t.data.toList.count 46 := by
  have hst : strip t = t := strip_same fun h => hno _ h rfl
  have t45 : tp t ⟨#[45]⟩ = t := tp1_no t 45 (by rw [hp1 t 45 x r hT]; exact ne_dig hx (by decide))
  have t43 : tp t ⟨#[43]⟩ = t := tp1_no t 43 (by rw [hp1 t 43 x r hT]; exact ne_dig hx (by decide))
  have h45 : hp t ⟨#[45]⟩ = false := by rw [hp1 t 45 x r hT]; exact ne_dig hx (by decide)
  have h95 : hp t ⟨#[95]⟩ = false := by rw [hp1 t 95 x r hT]; exact ne_dig hx (by decide)
  have hsz : ∀ c q, s.data.toList = c :: q → s.size ≠ 0 := fun c q h h0 => by rw [Lib.size_eq, h] at h0; cases h0
  rcases hS with ⟨rfl, h⟩ | ⟨c, h, ⟨rfl, hc⟩ | ⟨rfl, hc⟩⟩
  · have : s = t := ba_eq h
    subst this
    exact ⟨hsz _ _ hT, h95, h45, by rw [t43, t45, hst], rfl⟩
  · have hc' : c = 45 := byte_eq (n := 45) hc (by decide)
    subst hc'
    have e43 : tp s ⟨#[43]⟩ = s := tp1_no s 43 (by rw [hp1 s 43 _ _ h]; rfl)
    have e45 : tp s ⟨#[45]⟩ = t := ba_eq (by rw [tp1_yes s 45 (by rw [hp1 s 45 _ _ h]; rfl), h]; rfl)
    refine ⟨hsz _ _ h, by rw [hp1 s 95 _ _ h]; rfl, by rw [hp1 s 45 _ _ h]; rfl, by rw [e43, e45, hst], ?_⟩
    unfold cnt
    rw [h, List.count_cons]
    rfl
  · have hc' : c = 43 := byte_eq (n := 43) hc (by decide)
    subst hc'
    have e43 : tp s ⟨#[43]⟩ = t := ba_eq (by rw [tp1_yes s 43 (by rw [hp1 s 43 _ _ h]; rfl), h]; rfl)
    refine ⟨hsz _ _ h, by rw [hp1 s 95 _ _ h]; rfl, by rw [hp1 s 45 _ _ h]; rfl, by rw [e43, t45, hst], ?_⟩
    unfold cnt
    rw [h, List.count_cons]
    rfl
theorem numR_shape {H O X : Nat → Nat} {mi : Bool} {s t : ByteArray} {x : UInt8} {r : List UInt8} (hS : SgT mi s.data.toList t.data.toList) (hT : t.data.toList = x :: r) (hx : 48 ≤ x.toNat ∧ x.toNat ≤ 57) (hno : ∀ c ∈ t.data.toList, c.toNat ≠ 95) (hd : t.data.toList.count 46 ≤ 1) : numR H O X s = numM H O X mi (t.data.toList.count 46) t := by
  obtain ⟨h1, h2, h3, h4, h5⟩ := shape hS hT hx hno
  unfold numR
  rw [if_neg h1, h2, h5, h3, h4, if_neg (by decide), if_neg (by omega)]

theorem out_is {k : Nat} (h : k = 0 ∨ k = 1) (typ : ByteArray) (v : Value) (text : ByteArray) : Isnum (outN k typ v text) := by
  rcases h with rfl | rfl
  · exact .inl ⟨typ, v, text, rfl⟩
  · exact .inr rfl
theorem numN_is {neg : Bool} {b : Nat} {typ m : ByteArray} {z : Nat} (h : puE b m = .ok z) : Isnum (numN neg b typ m) := by
  unfold numN
  rw [h]
  cases neg
  · exact out_is (.inl rfl) _ _ _
  · refine out_is ?_ _ _ _
    show kd (if 9223372036854775808 < z then .range else .ok z) = 0 ∨ kd (if 9223372036854775808 < z then .range else .ok z) = 1
    split
    · exact .inr rfl
    · exact .inl rfl
theorem puE_of {b : Nat} (hb : 2 ≤ b) (hb2 : b ≤ 16) {t : ByteArray} {z : Int} (hne : t.data.toList ≠ []) (h : digF (b : Int) t.data.toList 0 = some z) : puE b t = .ok z.toNat := by
  unfold puE
  rw [if_neg fun h0 => hne (empty_iff t h0)]
  exact pu_of b hb hb2 _ 0 z h
theorem hp2 (s : ByteArray) (a b c d : UInt8) (r : List UInt8) (h : s.data.toList = c :: d :: r) : hp s ⟨#[a, b]⟩ = (a == c && b == d) := by
  unfold hp
  rw [h]
  show [a, b].isPrefixOf (c :: d :: r) = _
  simp [List.isPrefixOf]
theorem hp2_one (s : ByteArray) (a b c : UInt8) (h : s.data.toList = [c]) : hp s ⟨#[a, b]⟩ = false := by
  unfold hp
  rw [h]
  show [a, b].isPrefixOf [c] = _
  simp [List.isPrefixOf]
theorem dg_count {L : List UInt8} (h : Dg L) : L.count 46 = 0 := List.count_eq_zero.2 fun hm => by
  have := h _ hm
  exact absurd this.1 (by decide)
theorem dec_is {H O X : Nat → Nat} {mi : Bool} {s : ByteArray} {T : List UInt8} {z : Int} (hS : SgT mi s.data.toList T) (hD : Dg T) (hne : T ≠ []) (hz : T.length = 1 ∨ ∀ y r, T = y :: r → y.toNat ≠ 48) (hd : digF 10 T 0 = some z) : numR H O X s = numN mi 10 tDec ⟨T.toArray⟩ ∧ puE 10 ⟨T.toArray⟩ = .ok z.toNat := by
  obtain ⟨t, ht⟩ : ∃ t : ByteArray, t = ⟨T.toArray⟩ := ⟨_, rfl⟩
  have hl : t.data.toList = T := by rw [ht]
  rw [← ht]
  rw [← hl] at hS hD hne hz hd
  refine ⟨?_, puE_of (b := 10) (by omega) (by omega) hne hd⟩
  obtain ⟨x, r, hx⟩ : ∃ x r, t.data.toList = x :: r := by
    cases h : t.data.toList with
    | nil => exact absurd h hne
    | cons x r => exact ⟨x, r, rfl⟩
  have hxd := hD x (by rw [hx]; exact List.mem_cons_self)
  have hc := dg_count hD
  rw [numR_shape hS hx hxd (dg_no hD) (by omega), hc]
  have hlen := Lib.size_eq t
  have no2 : ∀ b : UInt8, (b.toNat < 48 ∨ 57 < b.toNat) → hp t ⟨#[48, b]⟩ = false := fun b hb => by
    cases r with
    | nil => exact hp2_one t 48 b x hx
    | cons y q =>
      rw [hp2 t 48 b x y q hx, ne_dig (hD y (by rw [hx]; simp)) hb, Bool.and_false]
  unfold numM
  rw [no2 120 (by decide), no2 111 (by decide), no2 98 (by decide), if_neg (by decide), if_neg (by decide), if_neg (by decide), if_neg, if_neg (by decide)]
  rintro ⟨h1, h2, _⟩
  rcases hz with h | h
  · omega
  · rw [hp1 t 48 x r hx] at h1
    have : x = 48 := (beq_iff_eq.1 h1).symm
    exact h x r hx (by rw [this]; rfl)
theorem based_is {H O X : Nat → Nat} {s : ByteArray} {c d : UInt8} {r : List UInt8} {b : Nat} {z : Int} (hs : s.data.toList = c :: d :: r) (hc : c.toNat = 48) (hd : (b = 8 ∧ d.toNat = 111) ∨ (b = 16 ∧ d.toNat = 120)) (hr : r ≠ []) (hz : digF (b : Int) r 0 = some z) : (∃ typ, ((b = 8 ∧ typ = tOct) ∨ (b = 16 ∧ typ = tHex)) ∧ numR H O X s = numN false b typ ⟨r.toArray⟩) ∧ puE b ⟨r.toArray⟩ = .ok z.toNat := by
  have hb : 2 ≤ b ∧ b ≤ 16 := by omega
  have hdr : ∀ (L : List UInt8) (n z : Int), digF (b : Int) L n = some z → ∀ c ∈ L, c.toNat ≠ 95 ∧ c.toNat ≠ 46 := by
    intro L
    induction L with
    | nil => intro n z h c hc; cases hc
    | cons x q ih =>
      intro n z h c hc
      obtain ⟨e, he⟩ : ∃ e : Int, e = hexV (x.toNat : Int) := ⟨_, rfl⟩
      have h' := (digF_step (b : Int) n e x q he).symm.trans h
      by_cases hcond : e < 0 ∨ (b : Int) ≤ e ∨ (18446744073709551615 - e) / (b : Int) < n
      · rw [if_pos hcond] at h'; cases h'
      rw [if_neg hcond] at h'
      rcases List.mem_cons.1 hc with rfl | hc
      · have h0 : 0 ≤ e := by omega
        constructor
        · intro h95; rw [he, h95] at h0; exact absurd h0 (by decide)
        · intro h46; rw [he, h46] at h0; exact absurd h0 (by decide)
      · exact ih _ _ h' c hc
  have hrd := hdr r 0 z hz
  have hno : ∀ x ∈ s.data.toList, x.toNat ≠ 95 := by
    intro x hx
    rw [hs] at hx
    rcases List.mem_cons.1 hx with rfl | hx
    · omega
    rcases List.mem_cons.1 hx with rfl | hx
    · omega
    exact (hrd x hx).1
  have hcnt : s.data.toList.count 46 = 0 := List.count_eq_zero.2 fun hm => by
    rw [hs] at hm
    rcases List.mem_cons.1 hm with h | hm
    · rw [← h] at hc; exact absurd hc (by decide)
    rcases List.mem_cons.1 hm with h | hm
    · rw [← h] at hd
      rcases hd with ⟨_, hd⟩ | ⟨_, hd⟩ <;> exact absurd hd (by decide)
    exact (hrd _ hm).2 rfl
  obtain ⟨t, ht⟩ : ∃ t : ByteArray, t = ⟨r.toArray⟩ := ⟨_, rfl⟩
  have hl : t.data.toList = r := by rw [ht]
  rw [← ht]
  refine ⟨?_, puE_of hb.1 hb.2 (by rw [hl]; exact hr) (by rw [hl]; exact hz)⟩
  rw [numR_shape (mi := false) (t := s) (.inl ⟨rfl, rfl⟩) hs (by omega) hno (by omega), hcnt]
  have hc' : c = 48 := byte_eq (n := 48) hc (by decide)
  have e2 : ∀ x : UInt8, hp s ⟨#[48, x]⟩ = (x == d) := fun x => by rw [hp2 s 48 x c d r hs, hc']; rfl
  have tp2 : ∀ x : UInt8, hp s ⟨#[48, x]⟩ = true → tp s ⟨#[48, x]⟩ = t := fun x h => ba_eq (by
    unfold tp
    rw [if_pos h, hl]
    have := ext_from s 2
    rw [hs] at this
    exact this)
  unfold numM
  rcases hd with ⟨rfl, hd⟩ | ⟨rfl, hd⟩
  · have hd' : d = 111 := byte_eq (n := 111) hd (by decide)
    subst hd'
    rw [if_neg (by rw [e2]; decide), if_pos (by rw [e2]; decide), tp2 111 (by rw [e2]; decide)]
    exact ⟨_, .inl ⟨rfl, rfl⟩, rfl⟩
  · have hd' : d = 120 := byte_eq (n := 120) hd (by decide)
    subst hd'
    rw [if_pos (by rw [e2]; decide), tp2 120 (by rw [e2]; decide)]
    exact ⟨_, .inr ⟨rfl, rfl⟩, rfl⟩
end Go.Proofs.YtlkbhmmelejmjaaDoor.AsIs

/- What AsNumber calls a float, toNumber calls a number. -/
namespace Go.Proofs.YtlkbhmmelejmjaaDoor.AsFis
open Go.RowKit Go.Proofs.YtlkbhmmelejmjaaDoorW.PrintWords Go.Proofs.YtlkbhmmelejmjaaDoor.NumParse Go.Proofs.YtlkbhmmelejmjaaDoor.NumPure Go.Proofs.YtlkbhmmelejmjaaDoor.NumStrip Go.Proofs.YtlkbhmmelejmjaaDoor.NumErr Go.Proofs.YtlkbhmmelejmjaaDoor.NumInt Go.Proofs.YtlkbhmmelejmjaaDoor.NumAny Go.Proofs.YtlkbhmmelejmjaaDoor.NumAll Go.Proofs.YtlkbhmmelejmjaaDoor.FltAtof Go.Proofs.YtlkbhmmelejmjaaDoor.FltParse Go.Proofs.YtlkbhmmelejmjaaDoor.FltTextP Go.Proofs.YtlkbhmmelejmjaaDoor.FltSpecial Go.Proofs.YtlkbhmmelejmjaaDoor.AsNum Go.Proofs.YtlkbhmmelejmjaaDoor.AsDig Go.Proofs.YtlkbhmmelejmjaaDoor.AsFlo Go.Proofs.YtlkbhmmelejmjaaDoor.AsWalk Go.Proofs.YtlkbhmmelejmjaaDoor.AsRest Go.Proofs.YtlkbhmmelejmjaaDoor.AsIs
set_option linter.unusedVariables false
set_option linter.unusedSimpArgs false

/-- The two scans go alike. -/
theorem scans (m : Int) : ∀ (L : List UInt8) (s : RS) (s' : SS), s.dot = s'.dot → s.dig = s'.dig → (rscan 10 m L s).2 = (sscan L s').2 ∧ (rscan 10 m L s).1.dig = (sscan L s').1.dig
  | [], s, s', h1, h2 => ⟨rfl, h2⟩
  | c :: r, s, s', h1, h2 => by
    rw [rscan_cons, sscan_cons]
    by_cases hp : c.toNat = 46
    · rw [if_pos hp, if_pos hp]
      cases hd : s.dot
      · rw [if_neg (by decide), if_neg (by rw [← h1, hd]; decide)]
        exact scans m r _ _ rfl h2
      · rw [if_pos rfl, if_pos (by rw [← h1, hd])]
        exact ⟨rfl, h2⟩
    rw [if_neg hp, if_neg hp]
    by_cases hd : isD c = true
    · rw [if_pos hd, if_pos hd]
      refine scans m r _ _ ?_ ?_
      · have e1 : (rdig1 10 m c s).dot = s.dot := by unfold rdig1; (repeat' split) <;> rfl
        have e2 : (sdig c s').dot = s'.dot := by unfold sdig; (repeat' split) <;> rfl
        rw [e1, e2, h1]
      · have e1 : (rdig1 10 m c s).dig = true := by unfold rdig1; (repeat' split) <;> rfl
        have e2 : (sdig c s').dig = true := by unfold sdig; (repeat' split) <;> rfl
        rw [e1, e2]
    · rw [if_neg hd, if_neg hd, if_neg (by omega)]
      exact ⟨rfl, h2⟩
theorem read_set {T : List UInt8} {r : RR} (hx : hexat T = false) (h : readF T = some r) (hr : r.rest = []) : setF T ≠ none := by
  unfold readF at h
  rw [hx, if_neg (by decide)] at h
  unfold rmain at h
  obtain ⟨e1, e2⟩ := scans 19 T rs0 ss0 rfl rfl
  unfold setF
  rw [← e1, ← e2]
  by_cases hd : (rscan 10 19 T rs0).1.dig = true
  · rw [if_pos hd] at h ⊢
    revert h
    cases (rscan 10 19 T rs0).2 with
    | nil => intro _ h; cases h
    | cons c q =>
      rw [rexp_cons, sexp_cons]
      by_cases hl : low c = 101
      · rw [if_pos hl, if_pos hl]
        cases expo q with
        | none => intro h; cases h
        | some e =>
          intro h
          have hre : e.2 = [] := by
            have : r = rfin 10 (rscan 10 19 T rs0).1 e.1 e.2 := (Option.some.inj h).symm
            rw [this] at hr
            exact hr
          unfold sE
          simp only
          rw [hre]
          intro h; cases h
      · rw [if_neg hl]
        intro h
        have : r = rfin 10 (rscan 10 19 T rs0).1 0 (c :: q) := (Option.some.inj h).symm
        rw [this] at hr
        cases hr
  · rw [if_neg hd] at h
    cases h
theorem numF_k {H O X : Nat → Nat} {ng : Bool} {T : List UInt8} {r : RR} (hs : setF (sgn T).2 ≠ none) : (numF H O X ng T r).2 = 0 ∨ (numF H O X ng T r).2 = 1 := by
  have hb : ∀ b : Bool, (if b then 1 else 0 : Nat) = 0 ∨ (if b then 1 else 0 : Nat) = 1 := fun b => by cases b <;> simp
  have hslow : (slowF T).2 = 0 ∨ (slowF T).2 = 1 := by
    unfold slowF
    cases h : setF (sgn T).2 with
    | none => exact absurd h hs
    | some t =>
      by_cases h : t.n = 0
      · simp [h]
      · simp only [h, if_false]
        cases FltBitsP.over t
        · exact .inl rfl
        · exact .inr rfl
  unfold numF
  split
  · exact hb _
  split
  · exact .inl rfl
  split
  · exact .inr rfl
  split
  · exact .inl rfl
  split
  · split
    · exact .inl rfl
    · exact hb _
  split
  · exact hb _
  · exact hslow
theorem low_dig : ∀ c : Fin 256, (48 ≤ c.val ∧ c.val ≤ 57) ∨ c.val = 46 → Go.bits .or .u8 (c.val : Int) 32 ≠ 120 := by decide +kernel
theorem cp_dig : ∀ c : Fin 256, 48 ≤ c.val ∧ c.val ≤ 57 → Go.bits .or .u8 (c.val : Int) 32 ≠ 105 := by decide +kernel
/-- How a float's text begins. -/
theorem flo_head {L : List UInt8} (h : FloG L) : ∃ x y r, L = x :: y :: r ∧ (48 ≤ x.toNat ∧ x.toNat ≤ 57) ∧ ((48 ≤ y.toNat ∧ y.toNat ≤ 57) ∨ y.toNat = 46) := by
  obtain ⟨V, ⟨a, p, b, rfl, hp, ha, hane, _, _, _⟩, _⟩ := h
  match a, hane with
  | [x], _ => exact ⟨x, p, b ++ V, rfl, ha x (by simp), .inr hp⟩
  | x :: y :: q, _ => exact ⟨x, y, q ++ p :: (b ++ V), rfl, ha x (by simp), .inl (ha y (by simp))⟩
theorem flo_count {L : List UInt8} (h : FloG L) : L.count 46 = 1 := by
  obtain ⟨V, ⟨a, p, b, rfl, hp, ha, _, _, hb, _⟩, hV⟩ := h
  have hp' : p = 46 := byte_eq (n := 46) hp (by decide)
  have cV : V.count 46 = 0 := by
    rcases hV with rfl | ⟨c, r, q, rfl, h1, h2, hq, _, _⟩
    · rfl
    · refine List.count_eq_zero.2 fun hm => ?_
      rcases List.mem_cons.1 hm with h | hm
      · rw [← h] at h1; revert h1; decide
      · rcases h2 with rfl | ⟨g, hg, rfl⟩
        · exact absurd (dg_count hq) (by rw [List.count_eq_zero]; exact fun h => h hm)
        · rcases List.mem_cons.1 hm with h | hm
          · rw [← h] at hg; revert hg; decide
          · exact absurd (dg_count hq) (by rw [List.count_eq_zero]; exact fun h => h hm)
  rw [List.count_append, List.count_cons, List.count_append, dg_count ha, dg_count hb, cV, hp']
  rfl
theorem sp_dig {x : UInt8} {r : List UInt8} (hx : 48 ≤ x.toNat ∧ x.toNat ≤ 57) : spF (x :: r) = none := by
  rw [spF_cons, if_neg (by omega), if_neg (by omega), if_neg (by omega), if_neg (by omega)]
theorem sp_min {x : UInt8} {r : List UInt8} (hx : 48 ≤ x.toNat ∧ x.toNat ≤ 57) : spF (45 :: x :: r) = none := by
  rw [spF_cons, if_neg (by decide), if_pos (by decide)]
  have h0 : cpF (x :: r) infT.data.toList = 0 := by
    have : infT.data.toList = 105 :: infT.data.toList.drop 1 := rfl
    rw [this, cpF_cons]
    exact if_neg (by unfold lc; have : ((105 : UInt8).toNat : Int) = 105 := rfl; split <;> omega)
  unfold infF
  rw [h0]
  exact if_neg (by decide)
theorem hex_no {L : List UInt8} (h : FloG L) : hexat L = false := by
  obtain ⟨x, y, r, rfl, _, hy⟩ := flo_head h
  cases r with
  | nil => rfl
  | cons z q =>
    show decide (x.toNat = 48 ∧ low y = 120) = false
    exact decide_eq_false fun hh => low_dig ⟨y.toNat, y.toNat_lt⟩ hy hh.2
/-- A float behind a minus is no wrong text where the float is read. -/
theorem par_neg {H O X : Nat → Nat} {t : ByteArray} (hF : FloG t.data.toList) (hk : (parF H O X t).2 = 0) : (parF H O X (⟨#[45]⟩ ++ t)).2 = 0 ∨ (parF H O X (⟨#[45]⟩ ++ t)).2 = 1 := by
  obtain ⟨x, y, q, hL, hx, hy⟩ := flo_head hF
  have hl : (⟨#[45]⟩ ++ t : ByteArray).data.toList = 45 :: t.data.toList := by rw [ByteArray.data_append]; simp
  have hsz : (⟨#[45]⟩ ++ t : ByteArray).size = t.size + 1 := by rw [Lib.size_eq, hl, Lib.size_eq]; rfl
  have s1 : spF t.data.toList = none := by rw [hL]; exact sp_dig hx
  have s2 : spF (⟨#[45]⟩ ++ t : ByteArray).data.toList = none := by rw [hl, hL]; exact sp_min hx
  have g1 : sgn t.data.toList = (false, t.data.toList) := by rw [hL, sgn_cons, if_neg (by omega), if_neg (by omega)]
  have g2 : sgn (⟨#[45]⟩ ++ t : ByteArray).data.toList = (true, t.data.toList) := by rw [hl, sgn_cons, if_neg (by decide), if_pos (by decide)]
  unfold parF at hk ⊢
  rw [s1, g1] at hk
  rw [s2, g2]
  simp only at hk ⊢
  cases hr : readF t.data.toList with
  | none => rw [hr] at hk; cases hk
  | some r =>
    rw [hr] at hk
    simp only at hk ⊢
    have hts : 0 < t.size := by rw [Lib.size_eq, hL]; simp
    by_cases hz : t.size - r.rest.length = t.size
    · have hrest : r.rest = [] := List.length_eq_zero_iff.1 (by omega)
      rw [hrest, hsz, if_pos (by simp)]
      refine numF_k ?_
      rw [List.length_nil, Nat.sub_zero, List.take_of_length_le (by rw [hl, List.length_cons, ← Lib.size_eq]; omega), g2]
      exact read_set (hex_no hF) hr hrest
    · rw [if_neg hz] at hk; cases hk
theorem float_is {H O X : Nat → Nat} {mi : Bool} {s t : ByteArray} (hS : SgT mi s.data.toList t.data.toList) (hF : FloG t.data.toList) (hk : (parF H O X t).2 = 0) : numR H O X s = numFl H O X mi t ∧ Isnum (numFl H O X mi t) := by
  obtain ⟨x, y, q, hL, hx, hy⟩ := flo_head hF
  constructor
  · rw [numR_shape hS hL hx (flo_no hF) (by rw [flo_count hF]; exact Nat.le_refl _), flo_count hF]
    have no2 : ∀ b : UInt8, (57 < b.toNat) → hp t ⟨#[48, b]⟩ = false := fun b hb => by
      rw [hp2 t 48 b x y q hL, show (b == y) = false from beq_eq_false_iff_ne.mpr fun h => by rw [h] at hb; omega, Bool.and_false]
    unfold numM
    rw [no2 120 (by decide), no2 111 (by decide), no2 98 (by decide), if_neg (by decide), if_neg (by decide), if_neg (by decide), if_neg (by rintro ⟨_, _, h⟩; cases h), if_pos rfl]
  · unfold numFl
    cases mi
    · exact out_is (.inl hk) _ _ _
    · exact out_is (par_neg hF hk) _ _ _
/-- What AsNumber calls a number, toNumber calls a number. -/
theorem as_is {H O X : Nat → Nat} {s : ByteArray} {k b : Int} {mi : Bool} {z : Int} {x : Nat} (h : AsF H O X s k b mi z x) (hk : k ≠ 0) : Isnum (numR H O X s) := by
  rcases h with h | ⟨_, hb, rfl, c, d, r, h1, h2, h3, h4, h5⟩ | ⟨_, rfl, T, h1, h2, h3, h4, h5, _⟩ | ⟨_, _, _, t, h1, h2, h3, _⟩
  · exact absurd h hk
  · have hd : ∃ n : Nat, (b = n) ∧ ((n = 8 ∧ d.toNat = 111) ∨ (n = 16 ∧ d.toNat = 120)) := by
      rcases h3 with ⟨h, g⟩ | ⟨h, g⟩
      · exact ⟨8, h, .inl ⟨rfl, g⟩⟩
      · exact ⟨16, h, .inr ⟨rfl, g⟩⟩
    obtain ⟨n, rfl, hn⟩ := hd
    obtain ⟨⟨typ, _, e1⟩, e2⟩ := based_is (H := H) (O := O) (X := X) h1 h2 hn h4 h5
    rw [e1]
    exact numN_is e2
  · obtain ⟨e1, e2⟩ := dec_is (H := H) (O := O) (X := X) h1 h2 h3 h4 h5
    rw [e1]
    exact numN_is e2
  · obtain ⟨e1, e2⟩ := float_is (H := H) (O := O) (X := X) h1 h2 h3
    rw [e1]
    exact e2
end Go.Proofs.YtlkbhmmelejmjaaDoor.AsFis

/- The sign ahead of a float changes but the sign of what is read (plain). -/
namespace Go.Proofs.YtlkbhmmelejmjaaDoor.FltSign
open Go.RowKit Go.Proofs.YtlkbhmmelejmjaaDoorW.PrintWords Go.Proofs.YtlkbhmmelejmjaaDoor.FltKnown Go.Proofs.YtlkbhmmelejmjaaDoor.FltDec Go.Proofs.YtlkbhmmelejmjaaDoor.FltFast Go.Proofs.YtlkbhmmelejmjaaDoor.FltFast2 Go.Proofs.YtlkbhmmelejmjaaDoor.FltNum Go.Proofs.YtlkbhmmelejmjaaDoor.FltBits Go.Proofs.YtlkbhmmelejmjaaDoor.FltBitsP Go.Proofs.YtlkbhmmelejmjaaDoor.FltAtof Go.Proofs.YtlkbhmmelejmjaaDoor.FltTextP Ieee
set_option linter.unusedVariables false
set_option linter.unusedSimpArgs false

/-- The sign's bit. -/
def sb (ng : Bool) : Nat := if ng then 9223372036854775808 else 0
theorem word_eq (ng : Bool) (a : Nat) : D.word ng a = sb ng + a := by
  unfold Format.word sb
  rw [sw]
  cases ng
  · exact (Nat.zero_add a).symm
  · rfl
theorem sgB_eq (ng : Bool) : sgB ng = (sb ng : Nat) := by cases ng <;> rfl
theorem sb_or (ng : Bool) {a : Nat} (h : a < 9223372036854775808) : sb ng ||| a = sb ng + a := nat_join 63 _ _ (by cases ng <;> decide) h
theorem sb_le (ng : Bool) : sb ng ≤ 9223372036854775808 := by cases ng <;> decide
theorem or_sg (ng : Bool) {a : Nat} (h : a < 9223372036854775808) : bits .or .u64 (sgB ng) (a : Int) = ((sb ng + a : Nat) : Int) := by
  have := sb_le ng
  rw [sgB_eq, u64_or_nat _ _ (by omega) (by omega), sb_or ng h]
theorem or_sg_word (ng : Bool) {a : Nat} (h : a < 9223372036854775808) : (bits .or .u64 (sgB ng) (a : Int)).toNat = D.word ng a := by
  rw [or_sg ng h, word_eq, Int.toNat_natCast]
theorem and_pow (x i : Nat) : x &&& 2 ^ i = if x.testBit i then 2 ^ i else 0 := by
  apply Nat.eq_of_testBit_eq
  intro j
  rw [Nat.testBit_and, Nat.testBit_two_pow]
  by_cases h : i = j
  · subst h
    cases hx : x.testBit i
    · simp
    · simp [Nat.testBit_two_pow]
  · cases x.testBit i
    · simp [h]
    · simp [h, Nat.testBit_two_pow]
theorem and52 (x : Nat) : x &&& 4503599627370496 = x / 4503599627370496 % 2 * 4503599627370496 := by
  have h := and_pow x 52
  rw [Nat.testBit_eq_decide_div_mod_eq] at h
  have e : (2 : Nat) ^ 52 = 4503599627370496 := by decide
  rw [e] at h
  rw [h]
  by_cases hb : x / 4503599627370496 % 2 = 1
  · rw [hb]; rfl
  · have : x / 4503599627370496 % 2 = 0 := by omega
    rw [this]; rfl
theorem and63' (x : Nat) : x &&& 9223372036854775808 = x / 9223372036854775808 % 2 * 9223372036854775808 := by
  have h := and_pow x 63
  rw [Nat.testBit_eq_decide_div_mod_eq] at h
  have e : (2 : Nat) ^ 63 = 9223372036854775808 := by decide
  rw [e] at h
  rw [h]
  by_cases hb : x / 9223372036854775808 % 2 = 1
  · rw [hb]; rfl
  · have : x / 9223372036854775808 % 2 = 0 := by omega
    rw [this]; rfl
theorem i52 (x : Nat) (h : x < 18446744073709551616) : bits .and .u64 (x : Int) 4503599627370496 = ((x &&& 4503599627370496 : Nat) : Int) := u64_and_nat x 4503599627370496 h (by omega)
theorem i63 (x : Nat) (h : x < 18446744073709551616) : bits .and .u64 (x : Int) 9223372036854775808 = ((x &&& 9223372036854775808 : Nat) : Int) := u64_and_nat x 9223372036854775808 h (by omega)
theorem iInf (x : Nat) (h : x < 18446744073709551616) : bits .or .u64 (x : Int) 9218868437227405312 = ((x ||| 9218868437227405312 : Nat) : Int) := u64_or_nat x 9218868437227405312 h (by omega)
theorem n52 (x : Nat) (h : x < 18446744073709551616) : bits .andNot .u64 (x : Int) 4503599627370496 = ((x &&& 18442240474082181119 : Nat) : Int) := u64_andNot_nat x 4503599627370496 h (by omega)
theorem low_and {r : Nat} (h : r < 4503599627370496) : r &&& 18442240474082181119 = r := by
  apply Nat.eq_of_testBit_eq
  intro i
  rw [Nat.testBit_and]
  by_cases hi : i < 52
  · have : ∀ i : Fin 52, (18442240474082181119 : Nat).testBit i.val = true := by decide +kernel
    rw [this ⟨i, hi⟩, Bool.and_true]
  · have : r.testBit i = false := Nat.testBit_lt_two_pow (Nat.lt_of_lt_of_le h (by
      have : (2 : Nat) ^ 52 ≤ 2 ^ i := Nat.pow_le_pow_right (by omega) (by omega)
      omega))
    rw [this, Bool.false_and]
theorem drop52 (ng : Bool) {r : Nat} (h : r < 4503599627370496) : (sb ng + (4503599627370496 + r)) &&& 18442240474082181119 = sb ng + r := by
  have e1 : 4503599627370496 + r = 4503599627370496 ||| r := (nat_join 52 _ _ (by decide) h).symm
  rw [← sb_or ng (by omega), e1, Nat.and_or_distrib_right, Nat.and_or_distrib_right, low_and h]
  have e2 : sb ng &&& 18442240474082181119 = sb ng := by cases ng <;> decide
  have e3 : (4503599627370496 : Nat) &&& 18442240474082181119 = 0 := by decide
  rw [e2, e3, Nat.zero_or, sb_or ng (by omega)]
/-- pack64 keeps the sign apart. -/
theorem pk_sg (R : Nat) (x : Int) (hR : R ≤ 9007199254740992) (hx0 : -1074 ≤ x) (hx1 : x ≤ 100000) : ∃ a, a ≤ 9218868437227405312 ∧ ∀ ng, pkV (bits .or .u64 (sgB ng) (R : Int)) x = D.word ng a := by
  have hb : ∀ ng, bits .and .u64 (bits .or .u64 (sgB ng) (R : Int)) 4503599627370496 = ((R / 4503599627370496 % 2 * 4503599627370496 : Nat) : Int) := fun ng => by
    have hs := sb_le ng
    rw [or_sg ng (by omega), i52 _ (by omega), and52]
    have : (sb ng + R) / 4503599627370496 % 2 = R / 4503599627370496 % 2 := by
      cases ng
      · show (0 + R) / _ % 2 = _
        rw [Nat.zero_add]
      · show (9223372036854775808 + R) / _ % 2 = _
        omega
    rw [this]
  by_cases h52 : R / 4503599627370496 % 2 = 0
  · refine ⟨R, by omega, fun ng => ?_⟩
    unfold pkV
    rw [hb, h52, if_pos (by decide), or_sg ng (by omega), word_eq, Int.toNat_natCast]
  · have h1 : R / 4503599627370496 % 2 = 1 := by omega
    have hne : ¬ (((R / 4503599627370496 % 2 * 4503599627370496 : Nat) : Int) = 0) := by rw [h1]; decide
    by_cases hbig : 972 ≤ x
    · refine ⟨9218868437227405312, Nat.le_refl _, fun ng => ?_⟩
      unfold pkV
      rw [hb, if_neg hne, if_pos hbig, or_sg ng (by omega)]
      have hs := sb_le ng
      rw [i63 _ (by omega), and63']
      have : (sb ng + R) / 9223372036854775808 % 2 * 9223372036854775808 = sb ng := by
        cases ng
        · show (0 + R) / _ % 2 * _ = 0
          omega
        · show (9223372036854775808 + R) / _ % 2 * _ = 9223372036854775808
          omega
      rw [this, iInf _ (by omega), sb_or ng (by omega), word_eq, Int.toNat_natCast]
    · obtain ⟨r, hr, hr2⟩ : ∃ r, R = 4503599627370496 + r ∧ r < 4503599627370496 := ⟨R - 4503599627370496, by omega, by omega⟩
      obtain ⟨e, he⟩ : ∃ e : Nat, 1075 + x = (e : Int) := ⟨(1075 + x).toNat, by omega⟩
      have he2 : e ≤ 2046 := by omega
      refine ⟨e * 4503599627370496 + r, by omega, fun ng => ?_⟩
      have hs := sb_le ng
      have ew : IntKind.u64.wrap (IntKind.u64.wrap (1075 + x) * 4503599627370496) = ((e * 4503599627370496 : Nat) : Int) := by
        rw [he, IntKind.wrap_u64, IntKind.wrap_u64]
        omega
      unfold pkV
      rw [hb, if_neg hne, if_neg hbig, or_sg ng (by omega), ew, n52 _ (by omega)]
      rw [hr, drop52 ng hr2]
      rw [u64_or_nat _ _ (by omega) (by omega), Int.toNat_natCast, word_eq, ← sb_or ng (by omega), Nat.or_assoc, Nat.or_comm r, nat_join 52 (e * 4503599627370496) r (by omega) hr2, sb_or ng (by omega)]
theorem wrap_in (y : Int) : 0 ≤ IntKind.u64.wrap y ∧ IntKind.u64.wrap y < 18446744073709551616 := by
  rw [IntKind.wrap_u64]
  omega
theorem m1_in (x a : Int) : 0 ≤ FltFast2.m1 x a ∧ FltFast2.m1 x a < 18446744073709551616 := by
  obtain ⟨y, hy⟩ : ∃ y, FltFast2.m1 x a = IntKind.u64.wrap y := ⟨_, rfl⟩
  rw [hy]
  exact wrap_in y
theorem div_in {m : Int} (h0 : 0 ≤ m) (h1 : m < 18446744073709551616) {k : Nat} (hk : 8 ≤ k) : 0 ≤ m / 2 ^ k ∧ m / 2 ^ k < 72057594037927936 := by
  have hp : (0 : Int) < 2 ^ k := Int.pow_pos (by decide)
  have h8 : (256 : Int) ≤ 2 ^ k := by
    have : (2 : Nat) ^ 8 ≤ 2 ^ k := Nat.pow_le_pow_right (by omega) hk
    have h2 : ((2 ^ k : Nat) : Int) = (2 : Int) ^ k := by push_cast; rfl
    rw [← h2]
    have : (256 : Nat) ≤ 2 ^ k := this
    omega
  refine ⟨Int.ediv_nonneg h0 (by omega), Int.ediv_lt_of_lt_mul hp ?_⟩
  have : 72057594037927936 * (256 : Int) ≤ 72057594037927936 * 2 ^ k := Int.mul_le_mul_of_nonneg_left h8 (by decide)
  omega
theorem or_in {a b : Int} {n : Nat} (hn : n ≤ 64) (h0 : 0 ≤ a) (h1 : a < 2 ^ n) (h2 : 0 ≤ b) (h3 : b < 2 ^ n) : 0 ≤ bits .or .u64 a b ∧ bits .or .u64 a b < 2 ^ n := by
  have hp : (2 : Nat) ^ n ≤ 2 ^ 64 := Nat.pow_le_pow_right (by omega) hn
  have hc : ((2 ^ n : Nat) : Int) = (2 : Int) ^ n := by push_cast; rfl
  rw [← hc] at h1 h3 ⊢
  have e64 : (2 : Nat) ^ 64 = 18446744073709551616 := by decide
  rw [e64] at hp
  rw [u64_or a b h0 (by omega) h2 (by omega)]
  have : a.toNat ||| b.toNat < 2 ^ n := Nat.or_lt_two_pow (by omega) (by omega)
  omega
theorem and1_in {a : Int} (h0 : 0 ≤ a) (h1 : a < 18446744073709551616) : 0 ≤ bits .and .u64 a 1 ∧ bits .and .u64 a 1 ≤ 1 := by
  rw [u64_and a 1 h0 h1 (by decide) (by decide)]
  have : a.toNat &&& (1 : Int).toNat ≤ 1 := Nat.and_le_right
  omega
theorem b2_in (b : Bool) : 0 ≤ b2 b ∧ b2 b ≤ 1 := by cases b <;> decide
theorem uS_in (x a b : Int) {k : Nat} (hk : 8 ≤ k) : 0 ≤ uS x a b k ∧ uS x a b k < 72057594037927936 := by
  have e56 : (2 : Int) ^ 56 = 72057594037927936 := by decide
  unfold uS
  rw [← e56]
  split
  · obtain ⟨h0, h1⟩ := m1_in x a
    obtain ⟨g0, g1⟩ := div_in h0 h1 hk
    exact or_in (by omega) g0 (by rw [e56]; exact g1) (by decide) (by decide)
  · obtain ⟨h0, h1⟩ := wrap_in (FltFast2.m1 x a - b2 (decide (FltFast2.m2 x a < FltFast2.m1 x b)))
    obtain ⟨g0, g1⟩ := div_in h0 h1 hk
    obtain ⟨j0, j1⟩ := b2_in (decide (1 < IntKind.u64.wrap (FltFast2.m2 x a - FltFast2.m1 x b)))
    exact or_in (by omega) g0 (by rw [e56]; exact g1) j0 (by rw [e56]; omega)
theorem pE_le (d p : Int) : pE d p ≤ 53 - l64 d - pLp p ∧ pE d p ≤ 1074 := by
  unfold pE
  split <;> omega
theorem pSh_ge (d p : Int) : 8 ≤ pSh d p := by
  have := (pE_le d p).1
  unfold pSh
  omega
theorem pU_in (H O : Nat → Int) (d p : Int) : 0 ≤ pU H O d p ∧ pU H O d p < 72057594037927936 := uS_in _ _ _ (by have := pSh_ge d p; omega)
theorem pU2_in (H O : Nat → Int) (d p : Int) : 0 ≤ pU2 H O d p ∧ pU2 H O d p < 36028797018963968 := by
  have e55 : (2 : Int) ^ 55 = 36028797018963968 := by decide
  obtain ⟨h0, h1⟩ := pU_in H O d p
  obtain ⟨j0, j1⟩ := and1_in h0 (by omega)
  unfold pU2
  rw [← e55]
  refine or_in (by omega) ?_ ?_ j0 (by rw [e55]; omega)
  · split <;> omega
  · rw [e55]
    split
    · omega
    · next h =>
      have : ¬ 36028797018963966 ≤ pU H O d p := fun hh => h (decide_eq_true hh)
      omega
theorem pR_in {u : Int} (h0 : 0 ≤ u) (h1 : u < 36028797018963968) : 0 ≤ pR u ∧ pR u ≤ 9007199254740992 := by
  obtain ⟨j0, j1⟩ := and1_in (a := u / 4) (by omega) (by omega)
  unfold pR
  rw [IntKind.wrap_u64, IntKind.wrap_u64]
  omega
/-- The fast road keeps the sign apart. -/
theorem pf_sg (H O : Nat → Int) (d p : Int) (hd0 : 0 ≤ d) (hd1 : d < 18446744073709551616) (hp0 : -345 ≤ p) (hp1 : p ≤ 310) : ∃ a, a ≤ 9218868437227405312 ∧ ∀ ng, pfV H O d p (sgB ng) = D.word ng a := by
  by_cases h64 : 64 ≤ pSh d p
  · refine ⟨0, by omega, fun ng => ?_⟩
    unfold pfV
    rw [if_pos h64]
    exact or_sg_word ng (a := 0) (by omega)
  · obtain ⟨g0, g1⟩ := pU2_in H O d p
    obtain ⟨r0, r1⟩ := pR_in g0 g1
    obtain ⟨R, hR⟩ : ∃ R : Nat, pR (pU2 H O d p) = (R : Int) := ⟨(pR (pU2 H O d p)).toNat, by omega⟩
    have hE := (pE_le d p).2
    have hl := l64_in d hd0 hd1
    have hlp := pLp_in p hp0 hp1
    have hE2 : -2000 ≤ pE d p := by unfold pE; split <;> omega
    obtain ⟨b0, b1⟩ := b2_in (pC H O d p)
    obtain ⟨a, ha, hh⟩ := pk_sg R (-(pE d p - b2 (pC H O d p))) (by omega) (by omega) (by omega)
    refine ⟨a, ha, fun ng => ?_⟩
    unfold pfV
    rw [if_neg h64, hR]
    exact hh ng
theorem pfO_sg (H O : Nat → Int) (d p : Int) (ng : Bool) : pfO H O d p (sgB ng) = pfO H O d p (sgB false) := by
  obtain ⟨g0, g1⟩ := pU2_in H O d p
  obtain ⟨r0, r1⟩ := pR_in g0 g1
  obtain ⟨R, hR⟩ : ∃ R : Nat, pR (pU2 H O d p) = (R : Int) := ⟨(pR (pU2 H O d p)).toNat, by omega⟩
  have hb : ∀ ng, bits .and .u64 (bits .or .u64 (sgB ng) (R : Int)) 4503599627370496 = ((R / 4503599627370496 % 2 * 4503599627370496 : Nat) : Int) := fun ng => by
    have hs := sb_le ng
    rw [or_sg ng (by omega), i52 _ (by omega), and52]
    have : (sb ng + R) / 4503599627370496 % 2 = R / 4503599627370496 % 2 := by
      cases ng
      · show (0 + R) / _ % 2 = _
        rw [Nat.zero_add]
      · show (9223372036854775808 + R) / _ % 2 = _
        omega
    rw [this]
  unfold pfO pkO
  rw [hR, hb, hb]

theorem cmp_eq (a b : Int) : (compare a b == Ordering.eq) = decide (a = b) := by
  show (compareOfLessAndEq a b == Ordering.eq) = _
  unfold compareOfLessAndEq
  by_cases h : a < b
  · have : a ≠ b := by omega
    simp [h, this]
  · by_cases h2 : a = b <;> simp [h, h2]
theorem ord_sg {a b : Nat} (ha : a ≤ D.infRung) (hb : b ≤ D.infRung) (ng : Bool) : (D.order (D.word ng a) (D.word ng b) == some .eq) = (D.order (D.word false a) (D.word false b) == some .eq) := by
  cases ng
  · rfl
  unfold Format.order
  rw [read_word _ _ ha, read_word _ _ hb, read_word _ _ ha, read_word _ _ hb]
  rcases rd_cases true a with ⟨m, i, h⟩ | h
  · rcases rd_cases true b with ⟨n, j, g⟩ | g
    · rw [h, g, rd_num h false, rd_num g false]
      show (some (compare (signed true m _) (signed true n _)) == some Ordering.eq) = (some (compare (signed false m _) (signed false n _)) == some Ordering.eq)
      rw [some_beq, some_beq, cmp_eq, cmp_eq, sg_f, sg_t, sg_f, sg_t]
      exact decide_eq_decide.mpr (by omega)
    · rw [h, g, rd_num h false, rd_inf g false]; rfl
  · rcases rd_cases true b with ⟨n, j, g⟩ | g
    · rw [h, g, rd_inf h false, rd_num g false]; rfl
    · rw [h, g, rd_inf h false, rd_inf g false]; rfl
/-- A float is equal to itself. -/
theorem ord_self {a : Nat} (ha : a ≤ D.infRung) (ng : Bool) : (D.order (D.word ng a) (D.word ng a) == some .eq) = true := by
  unfold Format.order
  rw [read_word _ _ ha]
  rcases rd_cases ng a with ⟨m, i, h⟩ | h
  · rw [h]
    show (some (compare (signed ng m _) (signed ng m _)) == some Ordering.eq) = true
    rw [some_beq, cmp_eq]
    exact decide_eq_true rfl
  · rw [h]; cases ng <;> rfl

theorem low52 (M : Int) : ∃ m : Nat, bits .and .u64 M 4503599627370495 = (m : Int) ∧ m < 4503599627370496 := by
  have h : bits .and .u64 M 4503599627370495 = IntKind.u64.wrap ((BitVec.ofInt 64 M &&& BitVec.ofInt 64 4503599627370495).toNat : Int) := rfl
  have hc : (BitVec.ofInt 64 4503599627370495).toNat = 4503599627370495 := by decide
  have hle : (BitVec.ofInt 64 M &&& BitVec.ofInt 64 4503599627370495).toNat ≤ 4503599627370495 := by
    rw [BitVec.toNat_and, hc]
    exact Nat.and_le_right
  refine ⟨(BitVec.ofInt 64 M &&& BitVec.ofInt 64 4503599627370495).toNat, ?_, by omega⟩
  rw [h, IntKind.wrap_u64]
  omega
theorem and2047 : ∀ j : Fin 2048, bits .and .i64 (j.1 : Int) 2047 = (j.1 : Int) := by decide +kernel
theorem out_sg (M X : Int) (h0 : -1023 ≤ X) (h1 : X ≤ 1023) : ∃ a, a ≤ 9218868437227405312 ∧ ∀ ng, (signB ng (outB M X)).toNat = D.word ng a := by
  obtain ⟨m, hm, hm2⟩ := low52 M
  obtain ⟨e, he⟩ : ∃ e : Nat, X + 1023 = (e : Int) := ⟨(X + 1023).toNat, by omega⟩
  have hw : wrap64 (X + 1023) = (e : Int) := by unfold wrap64; omega
  have hE : IntKind.u64.wrap (IntKind.u64.wrap (bits .and .i64 (wrap64 (X + 1023)) 2047) * 4503599627370496) = ((e * 4503599627370496 : Nat) : Int) := by
    rw [hw, and2047 ⟨e, by omega⟩, IntKind.wrap_u64, IntKind.wrap_u64]
    show ((e : Int) % 18446744073709551616 * 4503599627370496) % 18446744073709551616 = _
    omega
  have ho : outB M X = ((e * 4503599627370496 + m : Nat) : Int) := by
    unfold outB
    rw [hm, hE, u64_or_nat _ _ (by omega) (by omega), Nat.or_comm, nat_join 52 _ _ (by omega) hm2]
  refine ⟨e * 4503599627370496 + m, by omega, fun ng => ?_⟩
  rw [ho, word_eq]
  unfold signB
  cases ng
  · rw [if_neg (by decide), Int.toNat_natCast]; exact (Nat.zero_add _).symm
  · rw [if_pos rfl]
    have := u64_or_nat (e * 4503599627370496 + m) 9223372036854775808 (by omega) (by omega)
    rw [show (9223372036854775808 : Int) = ((9223372036854775808 : Nat) : Int) from rfl, this, Int.toNat_natCast, Nat.or_comm]
    exact sb_or true (by omega)
theorem fX_in {t : FltState.St} (h : over t = false) : -1023 ≤ fX t ∧ fX t ≤ 1023 := by
  have hx4 : -1022 ≤ x4 t := by unfold x4; split <;> omega
  unfold fX
  rw [h, if_neg (by decide)]
  split
  · omega
  · next h330 =>
    unfold over at h
    rw [decide_eq_false h330] at h
    simp only [Bool.not_false, Bool.true_and, Bool.or_eq_false_iff, Bool.and_eq_false_iff, decide_eq_false_iff_not] at h
    unfold x6
    split
    · omega
    · unfold x5 at h ⊢
      split
      · next hm => rw [if_pos hm] at h; omega
      · omega
/-- What was read, with either sign, where there is no error: the same rung. L: the bytes behind the sign. -/
theorem num_sg {H O X : Nat → Nat} {L T0 T1 : List UInt8} {r : RR} (h0 : sgn T0 = (false, L)) (h1 : sgn T1 = (true, L)) (hx : r.hx = false) (hm0 : 0 ≤ r.man) (hm1 : r.man < 18446744073709551616) (hk : (numF H O X false T0 r).2 = 0) : ∃ a, a ≤ 9218868437227405312 ∧ numF H O X false T0 r = (D.word false a, 0) ∧ numF H O X true T1 r = (D.word true a, 0) := by
  unfold numF at hk ⊢
  rw [hx] at hk ⊢
  rw [if_neg (show ¬ (false = true) by decide)] at hk ⊢
  rw [if_neg (show ¬ (false = true) by decide)]
  by_cases hman : r.man = 0
  · rw [if_pos hman, if_pos hman]
    exact ⟨0, by omega, congrArg (fun x => (x, 0)) (or_sg_word false (a := 0) (by omega)), congrArg (fun x => (x, 0)) (or_sg_word true (a := 0) (by omega))⟩
  rw [if_neg hman] at hk ⊢
  rw [if_neg hman]
  by_cases he1 : 310 < r.exp
  · rw [if_pos he1] at hk; cases hk
  rw [if_neg he1] at hk ⊢
  rw [if_neg he1]
  by_cases he2 : r.exp < -345
  · rw [if_pos he2, if_pos he2]
    exact ⟨0, by omega, congrArg (fun x => (x, 0)) (or_sg_word false (a := 0) (by omega)), congrArg (fun x => (x, 0)) (or_sg_word true (a := 0) (by omega))⟩
  rw [if_neg he2] at hk ⊢
  rw [if_neg he2]
  obtain ⟨a, ha, hpf⟩ := pf_sg (fun k => (H k : Int)) (fun k => (O k : Int)) r.man r.exp hm0 hm1 (by omega) (by omega)
  have hO := pfO_sg (fun k => (H k : Int)) (fun k => (O k : Int)) r.man r.exp true
  by_cases htr : r.tr = false
  · rw [if_pos htr] at hk ⊢
    rw [if_pos htr]
    cases hex : exR X r.man r.exp with
    | some b =>
      have hb : b ≤ 9218868437227405312 := by
        rw [← ir]
        unfold exR at hex
        repeat' split at hex
        all_goals first
          | (cases hex; done)
          | (obtain rfl := Option.some.inj hex; first | exact rg_le _ _ | exact pdt_le _ _ | exact qt_le _ _)
      exact ⟨b, hb, rfl, rfl⟩
    | none =>
      rw [hex] at hk
      refine ⟨a, ha, ?_, ?_⟩
      · simp only at hk ⊢
        rw [hpf false, hk]
      · simp only at hk ⊢
        rw [hpf true, hO, hk]
  rw [if_neg htr] at hk ⊢
  rw [if_neg htr]
  obtain ⟨w0, w1⟩ := wrap_in (r.man + 1)
  obtain ⟨a2, ha2, hpf2⟩ := pf_sg (fun k => (H k : Int)) (fun k => (O k : Int)) (IntKind.u64.wrap (r.man + 1)) r.exp w0 w1 (by omega) (by omega)
  have hc : ∀ ng, ((FloatKind.format .f64).order (pfV (fun k => H k) (fun k => O k) r.man r.exp (sgB ng)) (pfV (fun k => H k) (fun k => O k) (IntKind.u64.wrap (r.man + 1)) r.exp (sgB ng)) == some .eq) = (D.order (D.word false a) (D.word false a2) == some .eq) := fun ng => by
    rw [hpf ng, hpf2 ng]
    exact ord_sg (by rw [ir]; exact ha) (by rw [ir]; exact ha2) ng
  rw [hc false] at hk ⊢
  rw [hc true]
  by_cases heq : (D.order (D.word false a) (D.word false a2) == some .eq) = true
  · rw [if_pos heq] at hk ⊢
    rw [if_pos heq]
    refine ⟨a, ha, ?_, ?_⟩
    · simp only at hk ⊢
      rw [hpf false, hk]
    · simp only at hk ⊢
      rw [hpf true, hO, hk]
  · rw [if_neg heq] at hk ⊢
    rw [if_neg heq]
    unfold slowF at hk ⊢
    rw [h0] at hk ⊢
    rw [h1]
    simp only at hk ⊢
    cases hs : setF L with
    | none => rw [hs] at hk; cases hk
    | some t =>
      rw [hs] at hk
      simp only at hk ⊢
      by_cases hn : t.n = 0
      · rw [if_pos hn, if_pos hn]
        obtain ⟨b, hb, hbb⟩ := out_sg 0 (-1023) (by omega) (by omega)
        exact ⟨b, hb, by rw [hbb], by rw [hbb]⟩
      · rw [if_neg hn] at hk ⊢
        rw [if_neg hn]
        cases ho : over t with
        | true => rw [ho] at hk; cases hk
        | false =>
          obtain ⟨x0, x1⟩ := fX_in ho
          obtain ⟨b, hb, hbb⟩ := out_sg (fM t) (fX t) x0 x1
          exact ⟨b, hb, by rw [hbb]; rfl, by rw [hbb]; rfl⟩
end Go.Proofs.YtlkbhmmelejmjaaDoor.FltSign

/- What AsNumber tells of a text, toNumber makes of it (plain). -/
namespace Go.Proofs.YtlkbhmmelejmjaaDoor.AsSgn
open Go.RowKit Go.Proofs.YtlkbhmmelejmjaaDoorW.PrintWords Go.Proofs.YtlkbhmmelejmjaaDoor.NumParse Go.Proofs.YtlkbhmmelejmjaaDoor.NumPure Go.Proofs.YtlkbhmmelejmjaaDoor.NumStrip Go.Proofs.YtlkbhmmelejmjaaDoor.NumErr Go.Proofs.YtlkbhmmelejmjaaDoor.NumInt Go.Proofs.YtlkbhmmelejmjaaDoor.NumAny Go.Proofs.YtlkbhmmelejmjaaDoor.NumAll Go.Proofs.YtlkbhmmelejmjaaDoor.FltAtof Go.Proofs.YtlkbhmmelejmjaaDoor.FltParse Go.Proofs.YtlkbhmmelejmjaaDoor.FltTextP Go.Proofs.YtlkbhmmelejmjaaDoor.FltSpecial Go.Proofs.YtlkbhmmelejmjaaDoor.FltNum Go.Proofs.YtlkbhmmelejmjaaDoor.FltSign Go.Proofs.YtlkbhmmelejmjaaDoor.AsNum Go.Proofs.YtlkbhmmelejmjaaDoor.AsDig Go.Proofs.YtlkbhmmelejmjaaDoor.AsFlo Go.Proofs.YtlkbhmmelejmjaaDoor.AsWalk Go.Proofs.YtlkbhmmelejmjaaDoor.AsRest Go.Proofs.YtlkbhmmelejmjaaDoor.AsIs Go.Proofs.YtlkbhmmelejmjaaDoor.AsFis Go.Proofs.YtlkbhmmelejmjaaDoor.FltReadIn
set_option linter.unusedVariables false
set_option linter.unusedSimpArgs false

theorem hx_no {L : List UInt8} {r : RR} (h : hexat L = false) (hr : readF L = some r) : r.hx = false := by
  unfold readF at hr
  rw [h, if_neg (by decide)] at hr
  unfold rmain at hr
  split at hr
  · revert hr
    cases (rscan 10 19 L rs0).2 with
    | nil =>
      intro hr
      have : r = rfin 10 (rscan 10 19 L rs0).1 0 [] := (Option.some.inj hr).symm
      rw [this]; rfl
    | cons c q =>
      rw [rexp_cons]
      split
      · cases expo q with
        | none => intro hr; cases hr
        | some e =>
          intro hr
          have : r = rfin 10 (rscan 10 19 L rs0).1 e.1 e.2 := (Option.some.inj hr).symm
          rw [this]; rfl
      · intro hr
        have : r = rfin 10 (rscan 10 19 L rs0).1 0 (c :: q) := (Option.some.inj hr).symm
        rw [this]; rfl
  · cases hr
theorem par_sg {H O X : Nat → Nat} {t : ByteArray} (hF : FloG t.data.toList) (hk : (parF H O X t).2 = 0) (hsz : t.size ≤ 2200000000) : ∃ a, a ≤ 9218868437227405312 ∧ parF H O X t = (D.word false a, 0) ∧ parF H O X (⟨#[45]⟩ ++ t) = (D.word true a, 0) := by
  obtain ⟨x, y, q, hL, hx, hy⟩ := flo_head hF
  have hl : (⟨#[45]⟩ ++ t : ByteArray).data.toList = 45 :: t.data.toList := by rw [ByteArray.data_append]; simp
  have hsz2 : (⟨#[45]⟩ ++ t : ByteArray).size = t.size + 1 := by rw [Lib.size_eq, hl, Lib.size_eq]; rfl
  have s1 : spF t.data.toList = none := by rw [hL]; exact sp_dig hx
  have s2 : spF (⟨#[45]⟩ ++ t : ByteArray).data.toList = none := by rw [hl, hL]; exact sp_min hx
  have g1 : sgn t.data.toList = (false, t.data.toList) := by rw [hL, sgn_cons, if_neg (by omega), if_neg (by omega)]
  have g2 : sgn (⟨#[45]⟩ ++ t : ByteArray).data.toList = (true, t.data.toList) := by rw [hl, sgn_cons, if_neg (by decide), if_pos (by decide)]
  unfold parF at hk ⊢
  rw [s1, g1] at hk
  rw [s1, g1, s2, g2]
  simp only at hk ⊢
  cases hr : readF t.data.toList with
  | none => rw [hr] at hk; cases hk
  | some r =>
    rw [hr] at hk
    simp only at hk ⊢
    have hts : 0 < t.size := by rw [Lib.size_eq, hL]; simp
    by_cases hz : t.size - r.rest.length = t.size
    · have hrest : r.rest = [] := List.length_eq_zero_iff.1 (by omega)
      rw [hrest] at hk ⊢
      rw [List.length_nil, Nat.sub_zero, if_pos rfl] at hk ⊢
      rw [Nat.sub_zero, if_pos rfl]
      have t1 : t.data.toList.take t.size = t.data.toList := List.take_of_length_le (by rw [← Lib.size_eq]; exact Nat.le_refl _)
      have t2 : (⟨#[45]⟩ ++ t : ByteArray).data.toList.take (⟨#[45]⟩ ++ t : ByteArray).size = (⟨#[45]⟩ ++ t : ByteArray).data.toList := List.take_of_length_le (by rw [← Lib.size_eq]; exact Nat.le_refl _)
      rw [t1] at hk ⊢
      rw [t2]
      have hin := readF_in (by have := Lib.size_eq t; omega) hr
      exact num_sg g1 g2 (hx_no (hex_no hF) hr) hin.1 hin.2.1 hk
    · rw [if_neg hz] at hk; cases hk
/-- The whole number, or the float, that toNumber makes of what AsNumber knows. -/
theorem num_exact {H O X : Nat → Nat} {s : ByteArray} {k b : Int} {mi : Bool} {z : Int} {x : Nat} (h : AsF H O X s k b mi z x) (hk : k ≠ 0) (hs : s.size ≤ 100) (hz : 0 ≤ z) :
    (k = 1 ∧ ∃ typ text, ((b = 8 ∧ typ = tOct) ∨ (b = 16 ∧ typ = tHex) ∨ (b = 10 ∧ typ = tDec)) ∧ numR H O X s = if mi then .num typ (iV (-z)) text else .num typ (uV z) text) ∨
    (k = 2 ∧ ∃ text, numR H O X s = .num tFlt (fV x) text ∧ (D.order x x == some .eq) = true) := by
  have hzz : ((z.toNat : Nat) : Int) = z := Int.toNat_of_nonneg hz
  rcases h with h | ⟨hk1, hb, rfl, c, d, r, h1, h2, h3, h4, h5⟩ | ⟨hk1, rfl, T, h1, h2, h3, h4, h5, h6⟩ | ⟨hk2, _, _, t, h1, h2, h3, h4⟩
  · exact absurd h hk
  · refine .inl ⟨hk1, ?_⟩
    have hd : ∃ n : Nat, (b = n) ∧ ((n = 8 ∧ d.toNat = 111) ∨ (n = 16 ∧ d.toNat = 120)) := by
      rcases h3 with ⟨h, g⟩ | ⟨h, g⟩
      · exact ⟨8, h, .inl ⟨rfl, g⟩⟩
      · exact ⟨16, h, .inr ⟨rfl, g⟩⟩
    obtain ⟨n, rfl, hn⟩ := hd
    obtain ⟨⟨typ, ht, e1⟩, e2⟩ := based_is (H := H) (O := O) (X := X) h1 h2 hn h4 h5
    refine ⟨typ, ⟨r.toArray⟩, ?_, ?_⟩
    · rcases ht with ⟨h, g⟩ | ⟨h, g⟩
      · exact .inl ⟨by omega, g⟩
      · exact .inr (.inl ⟨by omega, g⟩)
    · rw [e1]
      unfold numN
      rw [e2, if_neg (by decide)]
      show outN 0 typ (uV ((z.toNat : Nat) : Int)) _ = _
      rw [hzz]
      rfl
  · refine .inl ⟨hk1, ?_⟩
    obtain ⟨e1, e2⟩ := dec_is (H := H) (O := O) (X := X) h1 h2 h3 h4 h5
    refine ⟨tDec, sgd mi ⟨T.toArray⟩, .inr (.inr ⟨rfl, rfl⟩), ?_⟩
    rw [e1]
    unfold numN
    rw [e2]
    cases mi
    · rw [if_neg (by decide), if_neg (by decide)]
      show outN 0 tDec (uV ((z.toNat : Nat) : Int)) _ = _
      rw [hzz]
      rfl
    · have := h6 rfl
      have ei : inE (.ok z.toNat) = .ok z.toNat := by
        show (if 9223372036854775808 < z.toNat then En.range else .ok z.toNat) = _
        rw [if_neg (by omega)]
      rw [ei, if_pos rfl, if_pos rfl]
      show outN 0 tDec (iV (-((z.toNat : Nat) : Int))) _ = _
      rw [hzz]
      rfl
  · refine .inr ⟨hk2, ?_⟩
    have hts : t.size ≤ 2200000000 := by
      have e1 := Lib.size_eq s
      have e2 := Lib.size_eq t
      rcases h1 with ⟨_, h⟩ | ⟨c, h, _⟩
      · rw [h] at e1; omega
      · rw [h, List.length_cons] at e1; omega
    obtain ⟨e1, _⟩ := float_is h1 h2 h3
    obtain ⟨a, ha, p1, p2⟩ := par_sg h2 h3 hts
    have ha' : a ≤ D.infRung := by rw [ir]; exact ha
    refine ⟨sgd mi t, ?_, ?_⟩
    · rw [e1]
      unfold numFl
      cases mi
      · show outN (parF H O X t).2 tFlt (fV (parF H O X t).1) _ = _
        rw [h4, p1]; rfl
      · show outN (parF H O X (⟨#[45]⟩ ++ t)).2 tFlt (fV (parF H O X (⟨#[45]⟩ ++ t)).1) _ = _
        rw [h4, p1, p2, if_pos rfl]
        show outN 0 tFlt (fV (D.word true a)) _ = Nr.num tFlt (fV (Op.negFloat .f64 (D.word false a))) _
        rw [neg_eq false a ha']
        rfl
    · rw [h4, p1]
      cases mi
      · exact ord_self ha' false
      · show (D.order (Op.negFloat .f64 (D.word false a)) (Op.negFloat .f64 (D.word false a)) == some .eq) = true
        rw [neg_eq false a ha']
        exact ord_self ha' true
end Go.Proofs.YtlkbhmmelejmjaaDoor.AsSgn

/- nbTold: the comparison with what is wanted, for numbers read. -/
namespace Go.Proofs.YtlkbhmmelejmjaaDoor.RdTold
open Go.RowKit Go.Proofs.YtlkbhmmelejmjaaDoorW.PrintWords Go.Proofs.YtlkbhmmelejmjaaDoor.NumErr Go.Proofs.YtlkbhmmelejmjaaDoor.NumAny Go.Proofs.YtlkbhmmelejmjaaDoor.NumAll Go.Proofs.YtlkbhmmelejmjaaDoor.NumTell Go.Proofs.YtlkbhmmelejmjaaDoor.FltNum Go.Proofs.YtlkbhmmelejmjaaDoor.AsWalk Go.Proofs.YtlkbhmmelejmjaaDoor.AsSgn
set_option linter.unusedVariables false
set_option linter.unusedSimpArgs false
attribute [local go_sem ↓] Go.wp_at_zero Go.wp_at_succ
attribute [local go_sem] NumTell.run_store_float

def ToldP (w : World) (e : Ending) (w' : World) : Prop := Below w.heap.size w w' ∧ e = .returned (.bool true)
set_option maxHeartbeats 2000000 in
set_option maxRecDepth 100000 in
theorem told_u (b : Int) (typ text : ByteArray) (hb : (b = 8 ∧ typ = tOct) ∨ (b = 16 ∧ typ = tHex) ∨ (b = 10 ∧ typ = tDec)) (z : Int) (x : Nat) (w : World) : Calls Tryd.prog 9 #[numV true typ text 2 0 z 0, nbV 1 b false z x] w (ToldP w) := by
  rcases hb with ⟨rfl, rfl⟩ | ⟨rfl, rfl⟩ | ⟨rfl, rfl⟩
  all_goals
    unfold numV nbV
    first | unfold tOct | unfold tHex | unfold tDec
    go_enter Tryd.func9, Tryd.ntmps9
    go_wp2_with fail
    go_ret
    exact ⟨((Below.refl _ _).alloc (Nat.le_refl _) _).alloc (by simp) _, rfl⟩
set_option maxHeartbeats 2000000 in
set_option maxRecDepth 100000 in
theorem told_i (b : Int) (typ text : ByteArray) (hb : (b = 8 ∧ typ = tOct) ∨ (b = 16 ∧ typ = tHex) ∨ (b = 10 ∧ typ = tDec)) (z : Int) (h0 : 0 ≤ z) (h1 : z ≤ 18446744073709551615) (x : Nat) (w : World) : Calls Tryd.prog 9 #[numV true typ text 1 (-z) 0 0, nbV 1 b true z x] w (ToldP w) := by
  have f0 : -z ≤ 0 := by omega
  have f1 : (IntKind.u64.wrap (-IntKind.u64.wrap (-z)) == z) = true := by
    rw [IntKind.wrap_u64, IntKind.wrap_u64]; simp; omega
  rcases hb with ⟨rfl, rfl⟩ | ⟨rfl, rfl⟩ | ⟨rfl, rfl⟩
  all_goals
    unfold numV nbV
    first | unfold tOct | unfold tHex | unfold tDec
    go_enter Tryd.func9, Tryd.ntmps9
    go_wp2_with fail
    go_ret
    exact ⟨((Below.refl _ _).alloc (Nat.le_refl _) _).alloc (by simp) _, rfl⟩
set_option maxHeartbeats 2000000 in
set_option maxRecDepth 100000 in
theorem told_f (b : Int) (text : ByteArray) (mi : Bool) (z : Int) (x : Nat) (hq : (D.order x x == some .eq) = true) (w : World) : Calls Tryd.prog 9 #[numV true tFlt text 3 0 0 x, nbV 2 b mi z x] w (ToldP w) := by
  have f0 : ((FloatKind.format .f64).order x x == some .eq) = true := hq
  clear hq
  unfold numV nbV tFlt
  go_enter Tryd.func9, Tryd.ntmps9
  go_wp2_with fail
  trace_state
  go_ret
  exact ⟨((Below.refl _ _).alloc (Nat.le_refl _) _).alloc (by simp) _, rfl⟩
end Go.Proofs.YtlkbhmmelejmjaaDoor.RdTold

/- FnNumberRead: the law (seat D; NOT BUILT yet). -/
namespace Go.Proofs.YtlkbhmmelejmjaaDoor.RdLaw
open Go.RowKit Go.Proofs.YtlkbhmmelejmjaaDoorW.PrintWords Go.Proofs.YtlkbhmmelejmjaaDoor.NumErr Go.Proofs.YtlkbhmmelejmjaaDoor.NumAny Go.Proofs.YtlkbhmmelejmjaaDoor.NumAll Go.Proofs.YtlkbhmmelejmjaaDoor.NumTell Go.Proofs.YtlkbhmmelejmjaaDoor.FltAtof Go.Proofs.YtlkbhmmelejmjaaDoor.FltNum Go.Proofs.YtlkbhmmelejmjaaDoor.AsWalk Go.Proofs.YtlkbhmmelejmjaaDoor.AsIs Go.Proofs.YtlkbhmmelejmjaaDoor.AsSgn Go.Proofs.YtlkbhmmelejmjaaDoor.RdTold
set_option linter.unusedVariables false
set_option linter.unusedSimpArgs false
attribute [local go_sem ↓] Go.wp_at_zero Go.wp_at_succ
attribute [local go_sem] NumTell.run_store_float

theorem field_kind (k b : Int) (mi : Bool) (z : Int) (x : Nat) (w : World) : Sem.run Tryd.prog (Instr.field 30 (Value.agg #[.int .i64 k, .int .i64 b, .bool mi, .int .u64 z, .float .f64 x]) 0) w = .ok (.int .i64 k) w := by kernel_rfl
/-- nbTold of what ToNumber makes and what AsNumber tells. -/
theorem told_any {H O X : Nat → Nat} {s : ByteArray} {k b : Int} {mi : Bool} {z : Int} {x : Nat} (h : AsF H O X s k b mi z x) (hk : k ≠ 0) (hs : s.size ≤ 100) (h0 : 0 ≤ z) (h1 : z ≤ 18446744073709551615) {d : Value} (hd : ImQ d (numR H O X s)) (w : World) : Calls Tryd.prog 9 #[d, nbV k b mi z x] w (ToldP w) := by
  rcases num_exact h hk hs h0 with ⟨rfl, typ, text, ht, hr⟩ | ⟨rfl, text, hr, hq⟩
  · cases mi
    · rw [hr, if_neg (by decide)] at hd
      rcases hd with ⟨a, e, hd⟩ | ⟨a, e, hd⟩ | ⟨y, e, hd⟩
      · unfold uV iV at e; injection e with e1 e2; cases e2
      · unfold uV at e; injection e with e1 e2; injection e2 with _ e3
        rw [hd, ← e3]
        exact told_u b typ text ht z x w
      · unfold uV fV at e; injection e with e1 e2; cases e2
    · rw [hr, if_pos rfl] at hd
      rcases hd with ⟨a, e, hd⟩ | ⟨a, e, hd⟩ | ⟨y, e, hd⟩
      · unfold iV at e; injection e with e1 e2; injection e2 with _ e3
        rw [hd, ← e3]
        exact told_i b typ text ht z h0 h1 x w
      · unfold uV iV at e; injection e with e1 e2; cases e2
      · unfold iV fV at e; injection e with e1 e2; cases e2
  · rw [hr] at hd
    rcases hd with ⟨a, e, hd⟩ | ⟨a, e, hd⟩ | ⟨y, e, hd⟩
    · unfold fV iV at e; injection e with e1 e2; cases e2
    · unfold fV uV at e; injection e with e1 e2; cases e2
    · unfold fV at e; injection e with e1 e2; injection e2 with _ e3
      rw [hd, ← e3]
      exact told_f b text mi z x hq w
set_option maxHeartbeats 2000000 in
set_option maxRecDepth 100000 in
theorem law_any (B : Nat) (H O X : Nat → Nat) (EV : Nat → Value) (s : ByteArray) (w : World) (hB : B ≤ w.heap.size) (hT : Tabs B H O X w) (hE : Errs B EV w) (hmax : s.size ≤ 140737488351232) : Calls Tryd.prog 5 #[.string s] w (NumAny.Bo true w) := by
  by_cases hbig : 2147483647 < s.size
  · have n5 : (2147483647 : Int) < (s.size : Int) := by omega
    clear hT hE hB
    go_enter Tryd.func5, Tryd.ntmps5
    go_wp2_with fail
    go_ret
    exact ⟨rfl, Below.refl _ _⟩
  have n5 : ¬ (2147483647 : Int) < (s.size : Int) := by omega
  have CA := Aside0.mk (fun W (hW : Below w.heap.size w W) => as_any B H O X EV s W (Nat.le_trans hB hW.size) (hT.keep hW hB) (hE.keep hW hB))
  have CI := Aside0.mk (fun W (hW : Below w.heap.size w W) => im_any B H O X EV s (by omega) W (Nat.le_trans hB hW.size) (hT.keep hW hB) (hE.keep hW hB))
  clear hT hE hB hbig
  go_enter Tryd.func5, Tryd.ntmps5
  go_wp2_with fail
  refine (CA.out _ (Below.refl _ _)).mono ?_
  rintro e w1 ⟨b1, k, b, mi, z, x, rfl, hF, hR⟩
  have B1 := Aside0.mk b1
  have HF := Aside0.mk (And.intro hF hR)
  clear b1 hF hR
  unfold nbV
  go_upto_region 4 with (fail)
  generalize hW : w1.alloc _ = W
  have hw : W.heap[w1.heap.size]? = some (.cells #[.int .i64 k, .int .i64 b, .bool mi, .int .u64 z, .float .f64 x] 30 (0, 0)) := by rw [← hW]; exact blk_new w1 _
  have hBW : Below w.heap.size w W := by rw [← hW]; exact B1.out.alloc B1.out.size _
  clear hW
  have x0 := blk_cell hw 0
  have x1 := blk_cell hw 1
  have x2 := blk_cell hw 2
  have x3 := blk_cell hw 3
  have x4 := blk_cell hw 4
  simp only [List.getElem?_toArray, List.getElem?_cons_succ, List.getElem?_cons_zero] at x0 x1 x2 x3 x4
  have HW := Aside0.mk hw
  have HBW := Aside0.mk hBW
  clear hw hBW
  by_cases hk : k = 0
  · have qk : (k == 0) = true := by rw [hk]; rfl
    clear hk
    go_wp2_with fail
    go_quiet (fail)
    go_wp2
    go_ret
    exact ⟨rfl, pw_below_drewN HBW.out _⟩
  · have qk : (k == 0) = false := beq_eq_false_iff_ne.mpr hk
    have HK := Aside0.mk hk
    have HS := Aside0.mk (HF.out.2 hk)
    clear hk
    go_wp2_with fail
    go_region_held3 (fun w' => w'.cell? ⟨w1.heap.size, 0, none⟩ = some (.int .i64 k) ∧ w'.cell? ⟨w1.heap.size, 1, none⟩ = some (.int .i64 b) ∧ w'.cell? ⟨w1.heap.size, 2, none⟩ = some (.bool mi) ∧ w'.cell? ⟨w1.heap.size, 3, none⟩ = some (.int .u64 z) ∧ w'.cell? ⟨w1.heap.size, 4, none⟩ = some (.float .f64 x)) (go_keep)
      (first
        | (go_at_call 7; refine (CI.out _ (by repeat (first | exact HBW.out | apply pw_below_drewN | apply below_drew1))).mono ?_; rintro e w2 ⟨hb2, d, rfl, hd⟩; have HD := Aside0.mk hd; have HB2 := Aside0.mk hb2; have y0 := pw_cell_below hb2 x0; have y1 := pw_cell_below hb2 x1; have y2 := pw_cell_below hb2 x2; have y3 := pw_cell_below hb2 x3; have y4 := pw_cell_below hb2 x4; clear hd hb2)
        | (go_at_call 9; refine (told_any HF.out.1 HK.out HS.out.1 HS.out.2.1 HS.out.2.2 HD.out _).mono ?_; rintro e w3 ⟨hb3, rfl⟩; have HB3 := Aside0.mk hb3; have u0 := pw_cell_below hb3 y0; have u1 := pw_cell_below hb3 y1; have u2 := pw_cell_below hb3 y2; have u3 := pw_cell_below hb3 y3; have u4 := pw_cell_below hb3 y4; clear hb3))
    all_goals
      go_wp2_with fail
      go_ret
      exact ⟨rfl, below_then (below_then HBW.out.drew (by exact HBW.out.size) HB2.out) (by exact (below_then HBW.out.drew (by exact HBW.out.size) HB2.out).size) HB3.out⟩
end Go.Proofs.YtlkbhmmelejmjaaDoor.RdLaw
