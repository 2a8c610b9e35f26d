/- Parts of the proof of FnPartLines, one behind the other: ScSingle. Each part says ahead of itself what it proves. -/
import Derived.Test.YtgglhfbjbddjjaaDoorPkFnPartLines12
import Derived.Deep.CutBlock

/- scanSingleQuote: where the scan of the runes behind the quote comes to a value, the token has it, and the whole text but its last break was passed. -/
namespace Go.Proofs.YtgglhfbjbddjjaaDoor.ScSingle
open Go.RowKit Go.Proofs.YtgglhfbjbddjjaaDoorW.PrintWords Go.Proofs.YtgglhfbjbddjjaaDoorW.PrintMore Go.Proofs.YtgglhfbjbddjjaaDoor.Utf Go.Proofs.YtgglhfbjbddjjaaDoor.Runes Go.Proofs.YtgglhfbjbddjjaaDoor.ScBase Go.Proofs.YtgglhfbjbddjjaaDoor.ScStep Go.Proofs.YtgglhfbjbddjjaaDoor.ScHex Go.Proofs.YtgglhfbjbddjjaaDoor.ScMark Go.Proofs.YtgglhfbjbddjjaaDoor.ScLoop Go.Proofs.YtgglhfbjbddjjaaDoor.LnPure
set_option linter.unusedVariables false
set_option linter.unusedSimpArgs false
attribute [local go_sem ↓] Go.wp_at_zero Go.wp_at_succ

/-- The text that is scanned: a quote ahead, runes that may stand there, a break at the end. -/
structure Tx (L : List Int) (cap0 : Nat) : Prop where
  n1 : 1 ≤ L.length
  n2 : L.length ≤ 5000
  cap : L.length ≤ cap0
  sc : ∀ r ∈ L, Scalar r
  last : L.getD (L.length - 1) 0 = 10
  cr : ∀ r ∈ L, r ≠ 13
/-- The answer of the scanner. -/
def ScP (w : World) (S C G cap0 : Nat) (L : List Int) (ty : Int) (R : List Int) (e : Ending) (w' : World) : Prop :=
  ∃ (t q : Nat) (o : ByteArray), e = .returned (.tuple #[.pointer (some ⟨t, 0, none⟩), .nilIface]) ∧ TokB w' t ty (ba (enc R)) o q ∧ PosB w' q ∧ w.heap.size ≤ t ∧ w.heap.size ≤ q ∧ SC w' S (sl G L.length cap0) ((L.length - 1 : Nat) : Int) ∧ Fr w w' (XS S C)
/-- What the loop holds. -/
def Lp (q : Int) (w wr : World) (S C G Q cap0 : Nat) (L R : List Int) (p : Int) (O V : Value) (os vs : List Int) (f : Bool) (i : Nat) : Prop :=
  Lf w wr S C G Q cap0 L p O V os vs ∧ os.length ≤ 4 * i ∧ vs.length ≤ i ∧ (∀ r ∈ vs, Scalar r) ∧ ∃ n, (L.drop i).length ≤ n ∧ scan q n (L.drop i) vs f = some R
theorem row_nil (w : World) (base : Nat) : Row w base (.slice none 0 0) [] := World.ownsRow_nil w base 21 1
theorem row_lit (w : World) (base : Nat) (h : base ≤ w.heap.size) : Row (w.alloc (.cells #[] 21)) base (.slice (some ⟨w.heap.size, 0, none⟩) 0 0) [] := by
  have := World.ownsRow_lit (base := base) (e := 21) (size := 1) w #[] 0 h (by decide) (by simp)
  simpa [Row, nums] using this

theorem row_cell {w : World} {base g cap : Nat} {xs : List Int} (h : Row w base (.slice (some ⟨g, 0, none⟩) xs.length cap) xs) (j : Nat) (hj : j < xs.length) : w.cell? ⟨g, j, none⟩ = some (.int .i32 (xs.getD j 0)) := by
  rw [World.ownsRow.cellAt h j (by omega)]
  unfold nums
  rw [List.getElem?_map, List.getElem?_eq_getElem hj]
  simp [List.getD, hj]
theorem trim_le (v : List Int) : (trim v).length ≤ v.length := by
  unfold trim
  rw [List.length_reverse]
  have := (List.dropWhile_sublist (· == (32 : Int)) (l := v.reverse)).length_le
  rw [List.length_reverse] at this
  exact this
theorem trim_take (v : List Int) : trim v = v.take (trim v).length := by
  have h : (trim v).reverse <:+ v.reverse := by
    unfold trim
    rw [List.reverse_reverse]
    exact List.dropWhile_suffix _
  have h2 : trim v <+: v := by
    have := List.reverse_prefix.2 h
    simpa using this
  exact (List.prefix_iff_eq_take.1 h2)
set_option maxHeartbeats 8000000 in
set_option maxRecDepth 100000 in
theorem single_scan (w : World) (S C G cap0 : Nat) (L R : List Int) (hP : Pl w S C G) (hS : SC w S (sl G L.length cap0) 0) (hC : CX w C 0 (sl G L.length cap0) (.slice none 0 0)) (hR : Reads w G L) (hT : ∀ W, Fr w W (XS S C) → Tabs W) (hX : Tx L cap0) (hsc : ∃ n, (L.drop 1).length ≤ n ∧ scan 39 n (L.drop 1) [] false = some R) :
    Calls Tryd.prog 28 #[.pointer (some ⟨S, 0, none⟩), .pointer (some ⟨C, 0, none⟩)] w (ScP w S C G cap0 L 18 R) := by
  have hAdd := Aside0.mk (add_any w w.heap.size C 0 (sl G L.length cap0) (.slice none 0 0) [] 39 hC (row_nil w _) hP.c (Nat.le_refl _) (by decide))
  have HPL := Aside0.mk hP
  have HTX := Aside0.mk hX
  have HSC := Aside0.mk hsc
  have HS := Aside0.mk hS
  have HR := Aside0.mk hR
  have HT := Aside0.mk hT
  have n1 := hX.n1
  have n2 := hX.n2
  clear hP hX hsc hS hC hR hT
  go_enter Tryd.func28, Tryd.ntmps28
  go_wp2_with fail
  refine hAdd.out.mono ?_
  rintro e w1 ⟨rfl, O, hC1, hO1, hM1, hF1⟩
  have hS1 : SC w1 S (sl G L.length cap0) 0 := HS.out.blk (hF1.block S HPL.out.s (fun hx => by
    rcases hx with hx | hx
    · exact HPL.out.sc hx
    · cases hx))
  have HCP := Aside0.mk (pos_any w1 S (sl G L.length cap0) 0 hS1)
  have H1 := Aside0.mk (And.intro hS1 (And.intro hC1 (And.intro hO1 (And.intro hM1 hF1))))
  clear hS1 hC1 hO1 hM1 hF1
  go_wp2_with fail
  refine HCP.out.mono ?_
  rintro e w2 ⟨Q, rfl, hQ1, hQ2, hb2⟩
  obtain ⟨hS1, hC1, hO1, hM1, hF1⟩ := H1.out
  have hC2 := hC1.blk (hb2.block C (CX.lt hC1))
  obtain ⟨sz, a, b, y1, y2, y3, hc2⟩ := hC2
  have x0 := blk_cell hc2 0
  have x4 := blk_cell hc2 4
  simp only [List.getElem?_toArray, List.getElem?_cons_succ, List.getElem?_cons_zero] at x0 x4
  unfold sl at x4
  have H2 := Aside0.mk (And.intro hQ1 (And.intro hQ2 (And.intro hb2 hc2)))
  clear hS1 hC1 hO1 hM1 hF1 hQ1 hQ2 hb2 hc2
  obtain ⟨N, hN⟩ : ∃ N, N = L.length := ⟨_, rfl⟩
  have HN := Aside0.mk hN
  rw [← hN] at x4 n1 n2
  clear hN
  go_wp2_with fail
  generalize hW3 : w2.alloc (Obj.cells #[] 21) = w3
  have HL : Aside0 (Lp 39 w w3 S C G Q cap0 L R 0 O (.slice (some ⟨w2.heap.size, 0, none⟩) 0 0) [39] [] false 1) := ⟨by
    obtain ⟨hS1, hC1, hO1, hM1, hF1⟩ := H1.out
    obtain ⟨hQ1, hQ2, hb2, hc2⟩ := H2.out
    have hz1 := hF1.size
    have hz2 := hb2.size
    have hb3 : Below w1.heap.size w1 w3 := by rw [← hW3]; exact hb2.alloc hz2 _
    have hb23 : Below w2.heap.size w2 w3 := by rw [← hW3]; exact (Below.refl _ _).alloc (Nat.le_refl _) _
    refine ⟨⟨hS1.blk (hb3.block S (SC.lt hS1)), hC1.blk (hb3.block C (CX.lt hC1)), Row.blk hO1 (fun g hg => hb3.block g (Row.lt hO1 hg).2), ?_, fun g hg e => ?_, ?_, PosB.blk hQ2 (hb23.block Q (PosB.lt hQ2)), fun e => ?_, fun e => ?_, by omega, ?_⟩, by simp, by simp, (fun r hr => by cases hr), HSC.out⟩
    · rw [← hW3]; exact row_lit w2 _ (by omega)
    · have h1 := (Row.lt hO1 e).2
      have h2 : w2.heap.size = g := Option.some.inj hg
      omega
    · have hg : G < w.heap.size := HPL.out.g
      refine reads_blk HR.out ?_
      rw [hb3.block G (by omega)]
      exact hF1.block G hg (fun hx => by
        rcases hx with hx | hx
        · exact HPL.out.cg hx.symm
        · cases hx)
    · have h1 := (Row.lt hO1 e).2
      omega
    · have h2 : w2.heap.size = Q := Option.some.inj e
      have := PosB.lt hQ2
      omega
    · exact ⟨hb3.os.trans hF1.os, hb3.tape.trans hF1.tape, hb3.output.trans hF1.output, Nat.le_trans hF1.size hb3.size, fun k hk hx => (hb3.block k (by omega)).trans (hF1.block k hk (fun hy => by
        rcases hy with hy | hy
        · exact hx (.inr hy)
        · cases hy))⟩⟩
  clear hAdd HCP HSC H1 H2 HS HR x0 x4 hW3
  go_loopw [10, 11, 12, 13] (fun vV vf vn vi wr => ∃ (g cap : Nat) (vs os : List Int) (O : Value) (f nw : Bool) (i : Nat), vV = .slice (some ⟨g, 0, none⟩) vs.length cap ∧ vf = .bool f ∧ vn = .bool nw ∧ vi = .int .i64 (i : Nat) ∧ 1 ≤ i ∧ i ≤ N ∧ Aside0 (Lp 39 w wr S C G Q cap0 L R (if nw = true then (i : Int) else (i : Int) - 1) O (.slice (some ⟨g, 0, none⟩) vs.length cap) os vs f i)) (fun _ _ _ vi _ => N - (intOf vi).toNat)
  case atStart => exact ⟨w2.heap.size, 0, [], [39], O, false, false, 1, rfl, rfl, rfl, rfl, by omega, by omega, ⟨by have h := HL.out; exact h⟩⟩
  case round =>
    obtain ⟨g, cap, vs, os, O, f, nw, i, rfl, rfl, rfl, rfl, hi1, hiN, HI⟩ := hrel
    have hlt : i < N := by
      rcases Nat.lt_or_ge i N with h | h
      · exact h
      · exfalso
        obtain ⟨_, _, _, _, n, hn, hs⟩ := HI.out
        rw [List.drop_eq_nil_of_le (by have := HN.out; omega)] at hs
        cases n with
        | zero => cases hs
        | succ n => cases hs
    clear HL
    go_upto_if 41 with (fail)
    go_cut [12] (fun v12 wc => v12 = .bool false ∧ Aside0 (Lp 39 w wc S C G Q cap0 L R (i : Int) O (.slice (some ⟨g, 0, none⟩) vs.length cap) os vs f i))
    case first =>
      cases nw with
      | false =>
        have CC := Aside0.mk (colL HI.out.1 HPL.out 1 (by omega) (by omega) (by simp; omega) (by simp; omega))
        go_wp2_with (go_at_call 37; refine CC.out.mono ?_; rintro e w4 ⟨rfl, hL4⟩; have HL4 := Aside0.mk hL4; clear hL4)
        go_meet
        case rel => exact ⟨rfl, ⟨by have h := HI.out; have h4 := HL4.out; simp only [Bool.false_eq_true, if_false, Int.sub_add_cancel] at h4; exact ⟨h4, h.2⟩⟩⟩
      | true =>
        go_wp2_with fail
        go_meet
        case rel => exact ⟨rfl, ⟨by have h := HI.out; simp only [if_true] at h; exact h⟩⟩
    case rest =>
      obtain ⟨rfl, HI2⟩ := hcut
      have hil : i < L.length := by rw [← HN.out]; exact hlt
      have hcell := HI2.out.1.rd i hil
      have hdrop : L.drop i = L.getD i 0 :: L.drop (i + 1) := by
        rw [List.drop_eq_getElem_cons hil]; congr 1; simp [List.getD, hil]
      have hcm : L.getD i 0 ∈ L := by rw [show L.getD i 0 = L[i] by simp [List.getD, hil]]; exact List.getElem_mem hil
      have hcs := HTX.out.sc _ hcm
      have h13 := HTX.out.cr _ hcm
      obtain ⟨c, hc⟩ : ∃ c, c = L.getD i 0 := ⟨_, rfl⟩
      rw [← hc] at hcell hdrop hcs h13
      have hol : os.length ≤ 4 * i := HI2.out.2.1
      have hvl : vs.length ≤ i := HI2.out.2.2.1
      have CA := Aside0.mk (addL HI2.out.1 HPL.out (by omega) c)
      obtain ⟨n, hn, hsn⟩ := HI2.out.2.2.2.2
      rw [hdrop] at hn hsn
      obtain ⟨m, rfl⟩ : ∃ m, n = m + 1 := by
        cases n with
        | zero => simp at hn
        | succ n => exact ⟨n, rfl⟩
      simp only [List.length_cons] at hn
      replace hn := Nat.le_of_succ_le_succ hn
      simp only [scan] at hsn
      have HCS := Aside0.mk hcs
      have HDR := Aside0.mk hdrop
      have HMN := Aside0.mk hn
      have HVS := Aside0.mk HI2.out.2.2.2.1
      clear hc hcm hdrop hil HI HI2 hn hcs
      by_cases c10 : c = 10
      · subst c10
        rw [if_pos rfl] at hsn
        by_cases hmk : mkr (L.drop (i + 1)) = true
        · rw [if_pos hmk] at hsn; cases hsn
        rw [if_neg hmk] at hsn
        have hi2 : i + 1 < N := by
          rcases Nat.lt_or_ge (i + 1) N with h | h
          · exact h
          · exfalso
            rw [List.drop_eq_nil_of_le (by have := HN.out; omega)] at hsn
            cases m with
            | zero => cases hsn
            | succ m => cases hsn
        have HSN := Aside0.mk hsn
        have HNM := Aside0.mk (noMark (L.drop (i + 1)) (by simpa using hmk) (fun h3 => by
          rw [List.length_drop] at h3
          have hl := HTX.out.last
          rw [show L.length - 1 = i + 3 by omega] at hl
          rw [← hl]
          simp [List.getD]) (fun h => by
          rw [List.drop_drop, List.head?_drop] at h
          have hm : (13 : Int) ∈ L := List.mem_of_getElem? h
          exact HTX.out.cr _ hm rfl) (fun r hr => HTX.out.sc r (List.mem_of_mem_drop hr)))
        have CN := Aside0.mk (fun W => newline_any W S 10 true (decide_eq_true (by omega)).symm)
        clear hsn hmk h13
        go_upto_block 2 with (first
          | (go_at_call 35; refine CA.out.mono ?_; rintro e w5 ⟨rfl, O5, hL5⟩; have HL5 := Aside0.mk hL5; clear hL5)
          | (go_at_call 38; refine (CN.out _).mono ?_; rintro e w6 ⟨rfl, rfl⟩))
        have hcv : ∀ j, j < vs.length → w5.cell? ⟨g, j, none⟩ = some (.int .i32 (vs.getD j 0)) := fun j hj => by
          rw [World.ownsRow.cellAt HL5.out.rv j (by omega)]
          simp [nums, List.getD, hj]
        have hcap : vs.length ≤ cap := by
          rcases HL5.out.rv.2 with ⟨h, _⟩ | ⟨_, _, _, h, _, _, h2, _⟩
          · cases h
          · injection h with _ _ h3; omega
        obtain ⟨tl, htl⟩ : ∃ tl, tl = (trim vs).length := ⟨_, rfl⟩
        have htle : tl ≤ vs.length := by rw [htl]; exact trim_le vs
        have HTL := Aside0.mk htl
        have HCV := Aside0.mk hcv
        clear htl hcv
        go_cut [15, 16] (fun v15 v16 wc => v15 = .int .i64 ((tl : Int) - 1) ∧ (∃ j : Int, v16 = .int .i64 j) ∧ w5 = wc)
        case first =>
          go_wp2_with fail
          go_loop [15, 16] (fun v15 v16 => ∃ j : Nat, j ≤ vs.length ∧ v15 = .int .i64 (-1) ∧ v16 = .int .i64 ((j : Int) - 1) ∧ Aside0 (trim (vs.take j) = trim vs)) (fun _ v16 => (intOf v16 + 1).toNat)
          case atStart => exact ⟨vs.length, Nat.le_refl _, rfl, rfl, ⟨by rw [List.take_length]⟩⟩
          case round =>
            obtain ⟨j, hj, rfl, rfl, HJ⟩ := hrel
            cases j with
            | zero =>
              have ht0 : tl = 0 := by rw [HTL.out, ← HJ.out]; rfl
              subst ht0
              go_wp2_with fail
              go_meet
              case rel => exact ⟨rfl, ⟨_, rfl⟩, rfl⟩
            | succ j =>
              have hx := HCV.out j (by omega)
              have htk : vs.take (j + 1) = vs.take j ++ [vs.getD j 0] := by
                rw [List.take_add_one]
                simp [List.getD, show j < vs.length by omega]
              have HJ2 := HJ.out
              rw [htk] at HJ2
              generalize vs.getD j 0 = y at hx HJ2
              have e1 : ((j + 1 : Nat) : Int) - 1 = (j : Int) := by omega
              rw [e1]
              by_cases h32 : y = 32
              · subst h32
                rw [trim_space] at HJ2
                go_wp2_with fail
                exact ⟨⟨j, by omega, rfl, rfl, ⟨HJ2⟩⟩, by simp [intOf]⟩
              · have q32 : (y == 32) = false := by simpa using h32
                rw [trim_other _ _ h32] at HJ2
                have ht1 : tl = j + 1 := by
                  rw [HTL.out, ← HJ2, List.length_append, List.length_take]
                  simp; omega
                subst ht1
                clear HJ2 h32
                go_wp2_with fail
                go_meet
                case rel => exact ⟨by congr 1; omega, ⟨_, rfl⟩, rfl⟩
        case rest =>
          obtain ⟨rfl, ⟨j16, rfl⟩, rfl⟩ := hcut
          have htd : Aside0 (trim vs = vs.take tl) := ⟨by rw [HTL.out]; exact trim_take vs⟩
          have HC5 := Aside0.mk (HL5.out.cutV tl htle)
          have hgt : decide ((tl : Int) - 1 < (vs.length : Int)) = true := decide_eq_true (by omega)
          have htc : tl ≤ cap := by omega
          have htl2 : (vs.take tl).length = tl := by rw [List.length_take]; omega
          clear HCV HTL
          cases f with
          | false =>
            go_upto_region 31 with (first
              | ((with_reducible refine gate_dst (N := 82) rfl ?_); at_builtin; refine print_append_num w.heap.size rfl (.tmp 80) _ 32 21 .i32 4 rfl Tryd.underlying32 info21 (by decide) (.slice (some ⟨g, 0, none⟩) tl cap) (vs.take tl) 32 rfl ?hx ?hO (Below.refl _ _) HC5.out.fr.size (by omega) ?_; (case hx => rfl); (case hO => have h := HC5.out.rv; exact h); intro v1 w7 hown hB hg hat; obtain ⟨g1, cap1, rfl, hgb, hgl⟩ := hown.form (by simp); have HV := Aside0.mk (HC5.out.app HPL.out hown hg hat); clear hown hB hg hat))
            have CL := Aside0.mk (lineL HV.out HPL.out (by omega) (by omega))
            have hi2b : decide ((i : Int) + 1 < (N : Int)) = true := decide_eq_true (by omega)
            go_upto_region 33 with (go_at_call 39; refine CL.out.mono ?_; rintro e w8 ⟨rfl, hL8⟩; have HL8 := Aside0.mk hL8; clear hL8)
            have CV := Aside0.mk (valL HL8.out HPL.out (HT.out _ HL8.out.fr) (i + 1) (by have := HN.out; omega) (by have := HN.out; omega) HTX.out.cap HTX.out.sc HNM.out (.pointer (some ⟨S, 0, none⟩)) (.pointer (some ⟨C, 0, none⟩)))
            rw [← HN.out] at CV
            have hcapN : N ≤ cap0 := by have := HTX.out.cap; have := HN.out; omega
            go_upto_region 34 with (go_at_call 40; refine CV.out.mono ?_; rintro e w9 ⟨rfl, hL9, hb9⟩; have HL9 := Aside0.mk hL9; clear hL9 hb9)
            go_wp2_with fail
            exact ⟨⟨g1, cap1, vs.take tl ++ [32], os ++ [10], O5, true, true, i + 1, by rw [List.length_append, htl2]; rfl, rfl, rfl, by go_num, by omega, by omega, ⟨⟨by have h := HL9.out; simp only [if_true]; exact h, by simp; omega, by simp; omega, (fun r hr => by
              rcases List.mem_append.1 hr with hr | hr
              · exact HVS.out r (List.mem_of_mem_take hr)
              · rw [List.mem_singleton.1 hr]; unfold Scalar; omega), m, HMN.out, by have h := HSN.out; rw [htd.out] at h; exact h⟩⟩⟩, by simp [intOf]; omega⟩
          | true =>
            go_upto_region 31 with (first
              | ((with_reducible refine gate_dst (N := 79) rfl ?_); at_builtin; refine print_append_num w.heap.size rfl (.tmp 77) _ 32 21 .i32 4 rfl Tryd.underlying32 info21 (by decide) (.slice (some ⟨g, 0, none⟩) tl cap) (vs.take tl) 10 rfl ?hx ?hO (Below.refl _ _) HC5.out.fr.size (by omega) ?_; (case hx => rfl); (case hO => have h := HC5.out.rv; exact h); intro v1 w7 hown hB hg hat; obtain ⟨g1, cap1, rfl, hgb, hgl⟩ := hown.form (by simp); have HV := Aside0.mk (HC5.out.app HPL.out hown hg hat); clear hown hB hg hat))
            have CL := Aside0.mk (lineL HV.out HPL.out (by omega) (by omega))
            have hi2b : decide ((i : Int) + 1 < (N : Int)) = true := decide_eq_true (by omega)
            go_upto_region 33 with (go_at_call 39; refine CL.out.mono ?_; rintro e w8 ⟨rfl, hL8⟩; have HL8 := Aside0.mk hL8; clear hL8)
            have CV := Aside0.mk (valL HL8.out HPL.out (HT.out _ HL8.out.fr) (i + 1) (by have := HN.out; omega) (by have := HN.out; omega) HTX.out.cap HTX.out.sc HNM.out (.pointer (some ⟨S, 0, none⟩)) (.pointer (some ⟨C, 0, none⟩)))
            rw [← HN.out] at CV
            have hcapN : N ≤ cap0 := by have := HTX.out.cap; have := HN.out; omega
            go_upto_region 34 with (go_at_call 40; refine CV.out.mono ?_; rintro e w9 ⟨rfl, hL9, hb9⟩; have HL9 := Aside0.mk hL9; clear hL9 hb9)
            go_wp2_with fail
            exact ⟨⟨g1, cap1, vs.take tl ++ [10], os ++ [10], O5, true, true, i + 1, by rw [List.length_append, htl2]; rfl, rfl, rfl, by go_num, by omega, by omega, ⟨⟨by have h := HL9.out; simp only [if_true]; exact h, by simp; omega, by simp; omega, (fun r hr => by
              rcases List.mem_append.1 hr with hr | hr
              · exact HVS.out r (List.mem_of_mem_take hr)
              · rw [List.mem_singleton.1 hr]; unfold Scalar; omega), m, HMN.out, by have h := HSN.out; rw [htd.out] at h; exact h⟩⟩⟩, by simp [intOf]; omega⟩
      rw [if_neg c10, if_neg h13] at hsn
      have q10 : (c == 10) = false := by simpa using c10
      have q13 : (c == 13) = false := by simpa using h13
      have CN := Aside0.mk (fun W => newline_any W S c false (decide_eq_false (by omega)).symm)
      by_cases c32 : f = true ∧ c = 32
      · rw [if_pos c32] at hsn
        obtain ⟨rfl, rfl⟩ := c32
        have HSN := Aside0.mk hsn
        clear hsn c10 h13
        go_wp2_with (first
          | (go_at_call 35; refine CA.out.mono ?_; rintro e w5 ⟨rfl, O5, hL5⟩; have HL5 := Aside0.mk hL5; clear hL5)
          | (go_at_call 38; refine (CN.out _).mono ?_; rintro e w6 ⟨rfl, rfl⟩))
        go_roundw
        case rel => exact ⟨g, cap, vs, os ++ [32], O5, true, false, i + 1, rfl, rfl, rfl, by go_num, by omega, by omega, ⟨⟨by have h := HL5.out; simp only [Bool.false_eq_true, if_false]; rw [show ((i + 1 : Nat) : Int) - 1 = (i : Int) by omega]; exact h, by simp; omega, by omega, HVS.out, m, HMN.out, HSN.out⟩⟩⟩
        case measure => simp [intOf]; omega
      rw [if_neg c32] at hsn
      by_cases c9 : c = 9
      · rw [if_pos c9] at hsn; cases hsn
      rw [if_neg c9, if_neg (fun h => absurd h.1 (by decide))] at hsn
      have q9 : (c == 9) = false := by simpa using c9
      by_cases c39 : c = 39
      · subst c39
        rw [if_pos rfl] at hsn
        by_cases h10 : L.drop (i + 1) = [10]
        · rw [if_pos h10] at hsn
          injection hsn with hsn
          have hlen : i + 2 = N := by
            have := congrArg List.length h10
            rw [List.length_drop, ← HN.out] at this
            simp at this; omega
          have hx1 : L.getD (i + 1) 0 = 10 := by
            have := congrArg (fun l : List Int => l.getD 0 0) h10
            simpa [List.getD] using this
          subst hsn
          have CN := Aside0.mk (fun W => newline_any W S 39 false (decide_eq_false (by omega)).symm)
          have hrd : Aside0 (L.getD (i + 1) 0 = 10) := ⟨hx1⟩
          clear h10 hx1 c10 c9 c32 h13
          have hff : f = false ∨ f = true := by cases f <;> simp
          go_upto_region 43 with (first
            | (go_at_call 35; refine CA.out.mono ?_; rintro e w5 ⟨rfl, O5, hL5⟩; have HL5 := Aside0.mk hL5; clear hL5)
            | (go_at_call 38; refine (CN.out _).mono ?_; rintro e w6 ⟨rfl, rfl⟩))
          all_goals
            have hi1N : i + 1 < N := by omega
            have hg1 := HL5.out.rd (i + 1) (by have := HN.out; omega)
            rw [hrd.out] at hg1
            obtain ⟨szC, aC, bC, yC1, yC2, yC3, hcC⟩ := HL5.out.cx
            have k4 := blk_cell hcC 4
            simp only [List.getElem?_toArray, List.getElem?_cons_succ, List.getElem?_cons_zero] at k4
            unfold sl at k4
            rw [← HN.out] at k4
            have hi2b : decide ((i : Int) + 1 < (N : Int)) = true := decide_eq_true (by omega)
            have CC := Aside0.mk (colL HL5.out HPL.out 1 (by omega) (by omega) (by omega) (by omega))
            clear hcC
            go_upto_region 49 with (go_at_call 37; refine CC.out.mono ?_; rintro e w6 ⟨rfl, hL6⟩; have HL6 := Aside0.mk hL6; clear hL6)
            obtain ⟨go, capo, hOe, _, _⟩ := HL6.out.ro.form (by simp)
            obtain ⟨szD, aD, bD, yD1, yD2, yD3, hcD⟩ := HL6.out.cx
            have k6 := blk_cell hcD 6
            simp only [List.getElem?_toArray, List.getElem?_cons_succ, List.getElem?_cons_zero] at k6
            rw [hOe] at k6
            have hro := HL6.out.ro
            rw [hOe] at hro
            have hAO : ∀ W, Below w6.heap.size w6 W → (convert 32 9 (.slice (some ⟨go, 0, none⟩) (os.length + 1) capo)).run Tryd.prog W = .ok (.string (runesBytes (os ++ [39]))) W := fun W hW => by
              have h := run_convert_runes (P := Tryd.prog) W 32 9 21 ⟨go, 0, none⟩ (os ++ [39]).length capo (os ++ [39]) (Nat.le_refl _) Tryd.underlying32 Tryd.underlying21 Tryd.underlying9 (fun j hj => by
                rw [addr_add]
                exact pw_cell_below hW (row_cell hro j hj))
              rw [List.take_of_length_le (Nat.le_refl _), List.length_append, List.length_singleton] at h
              exact h
            have hAV : ∀ W, Below w6.heap.size w6 W → (convert 32 9 (.slice (some ⟨g, 0, none⟩) vs.length cap)).run Tryd.prog W = .ok (.string (ba (enc vs))) W := fun W hW => by
              have h := run_convert_runes (P := Tryd.prog) W 32 9 21 ⟨g, 0, none⟩ vs.length cap vs (Nat.le_refl _) Tryd.underlying32 Tryd.underlying21 Tryd.underlying9 (fun j hj => by
                rw [addr_add]
                exact pw_cell_below hW (row_cell HL6.out.rv j hj))
              rw [List.take_of_length_le (Nat.le_refl _), runes_enc vs HVS.out] at h
              exact h
            rw [List.length_append, List.length_singleton] at k6
            obtain ⟨ob, hob⟩ : ∃ ob, ob = runesBytes (os ++ [39]) := ⟨_, rfl⟩
            obtain ⟨vb, hvb⟩ : ∃ vb, vb = ba (enc vs) := ⟨_, rfl⟩
            rw [← hob] at hAO
            rw [← hvb] at hAV
            have hcO := hAO w6.drew (Below.refl _ _).drew
            have hcV := hAV w6.drew (Below.refl _ _).drew
            have k6d : w6.drew.cell? ⟨C, 6, none⟩ = some (.slice (some ⟨go, 0, none⟩) (os.length + 1) capo) := k6
            have HAO := Aside0.mk hAO
            have HAV := Aside0.mk hAV
            have CT := Aside0.mk (fun W => single_tok vb ob Q W)
            have HVB := Aside0.mk hvb
            clear hro hOe hcD hob hvb hAO hAV
            go_region_held3 (fun w' => w'.cell? ⟨C, 6, none⟩ = some (.slice (some ⟨go, 0, none⟩) (os.length + 1) capo) ∧ (convert 32 9 (.slice (some ⟨go, 0, none⟩) (os.length + 1) capo)).run Tryd.prog w' = .ok (.string ob) w' ∧ (convert 32 9 (.slice (some ⟨g, 0, none⟩) vs.length cap)).run Tryd.prog w' = .ok (.string vb) w') (first | exact ⟨k6d, hcO, hcV⟩ | exact ⟨k7, k8, k9⟩) ((go_at_call 45; refine (CT.out _).mono ?_; rintro e w7 ⟨t, rfl, ht1, ht2, hb7⟩; have HT7 := Aside0.mk (And.intro ht1 (And.intro ht2 hb7)); have k7 := pw_cell_below hb7 k6d; have k8 := HAO.out _ ((Below.refl w6.heap.size w6).drew.trans hb7); have k9 := HAV.out _ ((Below.refl w6.heap.size w6).drew.trans hb7); clear ht1 ht2 hb7))
            all_goals
              go_wp2_with fail
              go_ret2
              have hL7 := HL6.out.below HPL.out ((Below.refl w6.heap.size w6).drew.trans HT7.out.2.2)
              refine ⟨t, Q, ob, rfl, by rw [← HVB.out]; exact HT7.out.2.1, hL7.ps, Nat.le_trans HL6.out.fr.size HT7.out.1, hL7.qb, ?_, hL7.fr⟩
              have h := hL7.sc
              rw [show ((L.length - 1 : Nat) : Int) = (i : Int) + 1 by have := HN.out; omega]
              exact h
        · rw [if_neg h10] at hsn; cases hsn
      · rw [if_neg c39] at hsn
        have q39 : (c == 39) = false := by simpa using c39
        have q39b : (c != 39) = true := by simpa using c39
        have HSN := Aside0.mk hsn
        have hf32 : (f && (c == 32)) = false := by
          cases f with
          | false => rfl
          | true => simp only [Bool.true_and]; simp only [true_and] at c32; simpa using c32
        have hf9 : (f && (c == 9)) = false := by rw [q9]; cases f <;> rfl
        have hff : f = false ∨ (f = true ∧ (c == 32) = false) := by
          cases f with
          | false => exact .inl rfl
          | true => exact .inr ⟨rfl, by simpa using c32⟩
        clear hsn c10 h13 c9 c39 hf32 hf9 c32
        rcases hff with rfl | ⟨rfl, q32⟩
        all_goals
          go_wp2_with (first
          | (go_at_call 35; refine CA.out.mono ?_; rintro e w5 ⟨rfl, O5, hL5⟩; have HL5 := Aside0.mk hL5; clear hL5)
          | (go_at_call 38; refine (CN.out _).mono ?_; rintro e w6 ⟨rfl, rfl⟩)
          | ((with_reducible refine gate_dst (N := 134) rfl ?_); at_builtin; refine print_append_num w.heap.size rfl (.tmp 131) _ 32 21 .i32 4 rfl Tryd.underlying32 info21 (by decide) (.slice (some ⟨g, 0, none⟩) vs.length cap) vs c rfl rfl HL5.out.rv (Below.refl _ _) HL5.out.fr.size (by omega) ?_; intro v1 w7 hown hB hg hat; obtain ⟨g1, cap1, rfl, hgb, hgl⟩ := hown.form (by simp); have HV := Aside0.mk (HL5.out.app HPL.out hown hg hat); clear hown hB hg hat))
          exact ⟨⟨g1, cap1, vs ++ [c], os ++ [c], O5, false, false, i + 1, by rw [List.length_append]; rfl, rfl, rfl, by go_num, by omega, by omega, ⟨⟨by have h := HV.out; simp only [Bool.false_eq_true, if_false]; rw [show ((i + 1 : Nat) : Int) - 1 = (i : Int) by omega]; exact h, by simp; omega, by simp; omega, (fun r hr => by
          rcases List.mem_append.1 hr with hr | hr
          · exact HVS.out r hr
          · rw [List.mem_singleton.1 hr]; exact HCS.out), m, HMN.out, HSN.out⟩⟩⟩, by simp [intOf]; omega⟩
end Go.Proofs.YtgglhfbjbddjjaaDoor.ScSingle
