/- The walk of ReadBlock over lines that Indented made. -/
import Derived.Test.YtmildhkegpmacaaDoorHeadWalks
import Derived.Laws.Cover4
namespace Go.Proofs.YtmildhkegpmacaaDoor.HeadRead
open Go.RowKit Go.Proofs.YtmildhkegpmacaaDoorW.PrintWords Go.Proofs.YtmildhkegpmacaaDoor.Utf Go.Proofs.YtmildhkegpmacaaDoor.HeadPure Go.Proofs.YtmildhkegpmacaaDoor.HeadWalks
open Go.Proofs.YtmildhkegpmacaaDoor.Runes (Tabs tabs_below Reads scRunes_ok all all_f all_cons runes_size addr_add mayStand content)
open Go.Proofs.YtmildhkegpmacaaDoor.QuotePure (encode_eq)
set_option linter.unusedVariables false
set_option linter.unusedSimpArgs false

theorem info57 : (Tryd.prog.info? 57).map (fun i => (i.zero, i.size, i.bytes)) = some (some (.slice none 0 0), 1, 24) := by kernel_rfl
theorem info21 : (Tryd.prog.info? 21).map (fun i => (i.zero, i.size, i.bytes)) = some (some (.int .i32 0), 1, 4) := by kernel_rfl

theorem runesBytes_enc (rs : List Int) (h : ∀ r ∈ rs, Scalar r) : runesBytes rs = ba (enc rs) := by
  have : ∀ (rs : List Int) (s : List UInt8), (∀ r ∈ rs, Scalar r) → rs.foldl (fun r n => r ++ Utf8.encode n) (ba s) = ba (s ++ enc rs) := by
    intro rs
    induction rs with
    | nil => intro s _; simp [enc_nil]
    | cons r t ih =>
      intro s h
      simp only [List.foldl_cons]
      rw [encode_eq r (h r (by simp)), ba_append, ih _ (fun x hx => h x (by simp [hx])), enc_cons]
      simp
  exact this rs [] h

theorem lined_enc (l : List Int) : B (lined (enc l)) = enc (rlined l) := by
  unfold lined rlined
  by_cases h : l = []
  · subst h; rfl
  · have : enc l ≠ [] := fun e => h ((enc_eq_nil l).1 e)
    rw [if_neg h, if_neg this, enc_cons, enc_cons, encodeRune_ascii 32 (by omega) (by omega)]
    rfl

theorem rlined_scalar (l : List Int) (h : ∀ r ∈ l, Scalar r) : ∀ r ∈ rlined l, Scalar r := by
  intro r hr
  unfold rlined at hr
  split at hr
  · simp at hr
  · rcases List.mem_cons.1 hr with rfl | hr
    · exact ⟨by omega, by omega⟩
    · rcases List.mem_cons.1 hr with rfl | hr
      · exact ⟨by omega, by omega⟩
      · exact h r hr

theorem rlined_all (l : List Int) (h : all false l = true) : all false (rlined l) = true := by
  unfold rlined
  split
  · rfl
  · rw [all_cons, all_cons, h]; rfl

/-- What has been read behind k lines. -/
def RD (rls : List (List Int)) (k : Nat) (bo : ByteArray) (m : Nat) : Prop := B bo ++ List.replicate (m + 1) 10 = J ((rls.take k).map enc)

theorem take_succ' (rls : List (List Int)) (k : Nat) (h : k < rls.length) : (rls.take (k + 1)).map enc = (rls.take k).map enc ++ [enc rls[k]] := by
  rw [List.take_succ_eq_append_getElem h, List.map_append]; rfl

theorem RD.first {rls : List (List Int)} (h : 0 < rls.length) : RD rls 1 (ba [] ++ ba (enc rls[0])) 0 := by
  unfold RD
  rw [take_succ' rls 0 h, ba_append]
  simp [J, B_ba]

theorem RD.empty {rls : List (List Int)} {k m : Nat} {bo : ByteArray} (hr : RD rls k bo m) (h : k < rls.length) (he : rls[k] = []) : RD rls (k + 1) bo (m + 1) := by
  unfold RD at hr ⊢
  rw [take_succ' rls k h, J_append, ← hr, he, List.replicate_succ' (n := m + 1)]
  simp [J, enc_nil]

theorem RD.more {rls : List (List Int)} {k m : Nat} {bo : ByteArray} (hr : RD rls k bo m) (h : k < rls.length) : RD rls (k + 1) (bo ++ ba (List.replicate (m + 1) 10) ++ ba (enc rls[k])) 0 := by
  unfold RD at hr ⊢
  rw [take_succ' rls k h, J_append, ← hr]
  simp [J, B, ba]

theorem J_le (a b : List (List UInt8)) : (J a).length ≤ (J (a ++ b)).length := by rw [J_append]; simp

theorem RD.sizes {rls : List (List Int)} {k m : Nat} {bo : ByteArray} (hr : RD rls k bo m) : bo.size + m + 1 ≤ (J (rls.map enc)).length := by
  unfold RD at hr
  have h1 := congrArg List.length hr
  rw [List.length_append, B_length, List.length_replicate] at h1
  have h2 := J_le ((rls.take k).map enc) ((rls.drop k).map enc)
  rw [← List.map_append, List.take_append_drop] at h2
  omega

/-- What the value is at the end. -/
def Fin (rls : List (List Int)) (ch : Int) (v : ByteArray) : Prop := ∀ bo m, RD rls rls.length bo m → (ch = 0 → bo = v) ∧ (ch = 1 → bo ++ ⟨#[10]⟩ = v) ∧ (ch = 2 → bo ++ ba (List.replicate (m + 1) 10) = v)

theorem line_size (rls : List (List Int)) (k : Nat) (h : k < rls.length) : (enc rls[k]).length + 1 ≤ (J (rls.map enc)).length := by
  have e : rls.map enc = (rls.take k).map enc ++ (enc rls[k] :: (rls.drop (k + 1)).map enc) := by
    conv => lhs; rw [← List.take_append_drop k rls, List.drop_eq_getElem_cons h]
    rw [List.map_append, List.map_cons]
  rw [e, J_append, J_cons]
  simp
  omega

set_option maxHeartbeats 4000000 in
set_option maxRecDepth 100000 in
theorem readblock (r0 : Int) (t0 : List Int) (xs0 : List (List Int)) (h32 : r0 ≠ 32) (h9 : r0 ≠ 9) (rls : List (List Int)) (hrls : rls = (r0 :: t0) :: xs0)
    (hJ : (J (rls.map enc)).length ≤ 5000) (hsc : ∀ l ∈ rls, ∀ r ∈ l, Scalar r) (hal : ∀ l ∈ rls, all false l = true) (ch : Int) (hch : ch = 0 ∨ ch = 1 ∨ ch = 2) (v : ByteArray) (hfin : Fin rls ch v)
    (A : Option Addr) (N cap : Nat) (hN : N = rls.length) (w : World) (hT : Tabs w) (hC : Kd.C Kd.string w A N (rls.map fun l => lined (enc l))) (hcap : N ≤ cap) :
    Calls Tryd.prog 14 #[.slice A N cap, .bool false, .int .i64 ch, .int .i64 0, .int .i64 0] w fun e w' => e = .returned (.tuple #[.string v, .int .i64 2]) ∧ Below w.heap.size w w' := by
  have hlen : ∀ k (h : k < rls.length), rls[k].length ≤ 5000 := fun k h => by
    have := line_size rls k h
    have := (enc_length rls[k]).1
    omega
  have hN2 : N ≤ 5000 := by
    have : ∀ l : List (List UInt8), l.length ≤ (J l).length := by
      intro l
      induction l with
      | nil => simp
      | cons a b ih => rw [J_cons]; simp; omega
    have := this (rls.map enc)
    simp at this
    omega
  have hN1 : 1 ≤ N := by rw [hN, hrls]; simp
  have HIN : Aside0 (PFnHeaderWritten.spec_scIndent.f 200000 (rls.map rlined) 0 0 = some (2, true)) := ⟨by
    have h0 := hlen 0 (by rw [hrls]; simp)
    have hx : ∀ l ∈ xs0, l.length ≤ 65534 := fun l hl => by
      have hm : l ∈ rls := by rw [hrls]; exact List.mem_cons_of_mem _ hl
      obtain ⟨i, hi, rfl⟩ := List.getElem_of_mem hm
      have := hlen i hi
      omega
    have e0 : rls[0]'(by rw [hrls]; simp) = r0 :: t0 := by simp [hrls]
    rw [e0] at h0
    simp at h0
    have hxl : xs0.length ≤ 65535 := by rw [hN, hrls] at hN2; simp at hN2; omega
    rw [hrls]
    exact indent_f 200000 (Nat.le_refl _) r0 t0 xs0 h32 h9 (by omega) hxl hx⟩
  have hne0 : Aside0 (∀ h : 0 < rls.length, rls[0] ≠ []) := ⟨fun h => by simp [hrls]⟩
  have HJ := Aside0.mk hJ
  have HSC := Aside0.mk hsc
  have HAL := Aside0.mk hal
  have HF := Aside0.mk hfin
  have HT := Aside0.mk hT
  have HC := Aside0.mk hC
  have HL := Aside0.mk hlen
  have HNN := Aside0.mk hN
  clear hrls hJ hsc hal hfin hT hC hlen h32 h9 hN
  go_enter Tryd.func14, Tryd.ntmps14
  go_wp2_with fail
  go_loopw [12, 27] (fun v12 i wr => ∃ k : Nat, k ≤ N ∧ i = .int .i64 k ∧ Aside0 (Kd.R (Kd.slice 21 (Kd.int .i32)) 57 wr w.heap.size (fun _ => True) v12 ((rls.map rlined).take k)) ∧ Aside0 (Below w.heap.size w wr)) (fun _ i _ => N - (intOf i).toNat)
  case atStart => exact ⟨0, by omega, rfl, ⟨Kd.R_nil _ _ _ _ _⟩, ⟨Below.refl _ _⟩⟩
  case round =>
    obtain ⟨k, hk, rfl, HO, HB⟩ := hrel
    by_cases hlt : k < N
    · have hltr : k < rls.length := by have := HNN.out; omega
      obtain ⟨ad, rfl, hcell⟩ := Kd.at_string HC.out (k : Int) (by omega) (by omega)
      have hrd : rdOf ByteArray.empty (rls.map fun l => lined (enc l)) (k : Int) = lined (enc rls[k]) := by simp [rdOf, List.getD, hltr]
      rw [hrd] at hcell
      replace hcell := (HB.out.cell (World.block_lt_of_cell? w _ hcell)).trans hcell
      rw [show ((k : Int)).toNat = k by omega] at hcell
      have hmem : rls[k] ∈ rls := List.getElem_mem hltr
      have hszl : (lined (enc rls[k])).size ≤ 65536 := by
        rw [← B_length, lined_enc]
        have h1 := (enc_length (rlined rls[k])).2
        have h2 : (rlined rls[k]).length ≤ rls[k].length + 2 := by unfold rlined; split <;> simp
        have := HL.out k hltr
        omega
      have CS := Aside0.mk fun wx (hTx : Tabs wx) => scRunes_own (lined (enc rls[k])) (rlined rls[k]) wx hTx hszl (rlined_scalar _ (HSC.out _ hmem)) (lined_enc _)
      have hll : (rlined rls[k]).length ≤ 9223372036854775806 := by
        have h2 : (rlined rls[k]).length ≤ rls[k].length + 2 := by unfold rlined; split <;> simp
        have := HL.out k hltr
        omega
      have HA := Aside0.mk (all_f (rlined rls[k]) false hll)
      rw [rlined_all _ (HAL.out _ hmem)] at HA
      have HTK : Aside0 ((rls.map rlined).take (k + 1) = (rls.map rlined).take k ++ [rlined rls[k]]) := ⟨by rw [List.take_succ_eq_append_getElem (by simp; exact hltr)]; simp⟩
      obtain ⟨S, hS⟩ : ∃ S, S = lined (enc rls[k]) := ⟨_, rfl⟩
      obtain ⟨L, hL⟩ : ∃ L, L = rlined rls[k] := ⟨_, rfl⟩
      rw [← hS] at hcell CS
      rw [← hL] at CS HA HTK hll
      clear hS hL hrd hszl hmem
      have HTW := Aside0.mk (tabs_below HT.out HB.out)
      go_wp2_with fail
      refine (CS.out _ HTW.out).mono ?_
      rintro e w2 ⟨g, c2, rfl, hown, hg, b2⟩
      have HR2 := Aside0.mk hown
      have BB2 := Aside0.mk b2
      have HB2 := Aside0.mk (HB.out.trans (b2.mono HB.out.size))
      have HO2 := Aside0.mk (Kd.R_below (Kd.R_bound HO.out) b2)
      have hc2 := (Kd.R_reads' hown).2.1
      clear hown b2
      go_wp2_with fail
      refine (PFnPartQuotes.spec_scAll.calls _ _ c2 L false true _ (Kd.R_reads' HR2.out).2.2 hc2 HA.out).mono ?_
      rintro e w3 ⟨rfl, ⟨m3, rfl⟩⟩
      have hgne : ∀ x : Nat, x = g → True ∧ some x ≠ u12.ownBlock := fun x hx => ⟨trivial, fun e => by
        have h2 := (Kd.R_bound HO.out).1 x e.symm
        have := HB.out.size
        omega⟩
      have HLL : Aside0 (((rls.map rlined).take k).length ≤ 5000) := ⟨by rw [List.length_take]; omega⟩
      go_wp2_with (first | ((with_reducible refine gate_builtin (b := .append) (xs := #[.tmp 43, .tmp 45]) rfl ?_); at_builtin; refine Kd.R_append (Kd.slice 21 (Kd.int .i32)) (w0 := w) w.heap.size rfl (.tmp 43) (.tmp 45) 63 57 (.slice none 0 0) 24 rfl Tryd.underlying63 info57 rfl (by decide) (by omega) u12 ((rls.map rlined).take k) L [.slice (some ⟨g, 0, none⟩) L.length c2] (fun _ => True) (fun x => x = g) rfl rfl ?aP hgne ?aF ?aO ?aB ?aS ?aL ?_; (case aP => exact ⟨_, rfl, Kd.R_lower HR2.out HB.out.size⟩); (case aB => exact (HB2.out.trans ((Drawn0.below ⟨⟨m3, rfl⟩⟩).mono HB2.out.size))); (case aF => exact (fun _ _ => trivial)); (case aO => exact Kd.R_mono HO2.out (fun _ _ => trivial)); (case aS => exact HB2.out.size); (case aL => have := HLL.out; omega); intro v1 w4 ho hb hgw hat; rw [← HTK.out] at ho; have HO4 := Aside0.mk ho; have HB4 := Aside0.mk hb; clear ho hb hgw hat))
      go_roundw
      case rel => exact ⟨k + 1, by omega, by go_num, HO4, HB4⟩
      case measure => simp [intOf]; omega
    · obtain rfl : k = N := by omega
      have hfull : (rls.map rlined).take k = rls.map rlined := List.take_of_length_le (by simp; exact Nat.le_of_eq HNN.out.symm)
      rw [hfull] at HO
      clear hlt hfull
      obtain ⟨A1, c1, rfl, hc1, hC1⟩ := Kd.R_reads HO.out
      have hll : (rls.map rlined).length = k := by simp; exact HNN.out.symm
      have HC1 := Aside0.mk hC1
      have HTW := Aside0.mk (tabs_below HT.out HB.out)
      rw [hll] at hc1 HC1
      clear hC1
      have CI := Aside0.mk (PFnHeaderWritten.spec_scIndent.calls 200000 A1 c1 (rls.map rlined) 0 0 2 true wr (by rw [hll]; exact HC1.out) (by rw [hll]; exact hc1) HIN.out)
      rw [hll] at CI
      clear HIN HO
      rw [hll]
      go_wp2_with fail
      refine CI.out.mono ?_
      rintro e w2 ⟨rfl, b2⟩
      have HB2 := Aside0.mk (HB.out.trans (b2.mono HB.out.size))
      have HC2 := Aside0.mk (Kd.C_below HC1.out b2)
      clear b2
      go_wp2_with fail
      go_loopw [19, 20, 21, 75] (fun o em wa i wx => ∃ (j m : Nat) (bo : ByteArray), j ≤ k ∧ i = .int .i64 j ∧ em = .int .i64 m ∧ o = .string bo ∧ ((j = 0 ∧ m = 0 ∧ bo = ⟨#[]⟩ ∧ wa = .slice none 0 0) ∨ (0 < j ∧ Aside0 (RD rls j bo m) ∧ ∃ ad n c, wa = .slice (some ad) n c)) ∧ Aside0 (Below w2.heap.size w2 wx)) (fun _ _ _ i _ => k - (intOf i).toNat)
      case atStart => exact ⟨0, 0, ⟨#[]⟩, by omega, rfl, rfl, rfl, .inl ⟨rfl, rfl, rfl, rfl⟩, ⟨Below.refl _ _⟩⟩
      case round =>
        obtain ⟨j, m, bo, hj, rfl, rfl, rfl, hst, HX⟩ := hrel
        have HXB := Aside0.mk (HB2.out.trans (HX.out.mono HB2.out.size))
        by_cases hlt : j < k
        · have hltr : j < rls.length := by have := HNN.out; omega
          obtain ⟨ad, A0, c0, rfl, hcell, hc0, hrow⟩ := PFnHeaderWritten.at_L1 HC2.out (j : Int) (by omega) (by omega)
          rw [rd_map rls j hltr] at hcell hc0 hrow
          replace hcell := (HX.out.cell (World.block_lt_of_cell? _ _ hcell)).trans hcell
          rw [show ((j : Int)).toNat = j by omega] at hcell
          have HROW := Aside0.mk (Kd.C_below hrow HX.out)
          clear hrow
          by_cases he : rls[j] = []
          · have hel : rlined rls[j] = [] := by rw [he]; rfl
            rw [hel] at hcell hc0
            simp only [List.length_nil] at hcell
            clear HROW
            rcases hst with ⟨rfl, _⟩ | ⟨hj0, HRD, ad2, n2, c2, rfl⟩
            · exact absurd he (hne0.out hltr)
            · have hms := HRD.out.sizes
              have := HJ.out
              have hm : m ≤ 5000 := by omega
              have HN := Aside0.mk (HRD.out.empty hltr he)
              clear hms this he hel HRD hc0
              go_wp2_with fail
              go_roundw
              case rel => exact ⟨j + 1, m + 1, bo, by omega, by go_num, by go_num, rfl, .inr ⟨by omega, HN, ad2, n2, c2, rfl⟩, HX⟩
              case measure => simp [intOf]; omega
          · obtain ⟨q, hq⟩ : ∃ q, rls[j].length = q + 1 := ⟨rls[j].length - 1, by
              have : rls[j].length ≠ 0 := fun h => he (List.eq_nil_of_length_eq_zero h)
              omega⟩
            have hdrop : (rlined rls[j]).drop 2 = rls[j] := by unfold rlined; rw [if_neg he]; rfl
            have hl3 : (rlined rls[j]).length = q + 3 := by unfold rlined; rw [if_neg he]; simp [hq]
            obtain ⟨i0, hi, _, hsz, _⟩ := info_parts info21
            obtain ⟨A', hcut, hreads, hle⟩ := print_cut_int (k := .i32) (P := Tryd.prog) 57 21 Tryd.underlying57 hi hsz A0 c0 (rlined rls[j]) 2 (by omega) (by omega) hc0
            have HRI : ReadsInt wr .i32 A' rls[j].length rls[j] := by
              have := hreads wr (Kd.reads_of_C (d := (0 : Int)) HROW.out)
              rwa [show ((2 : Int)).toNat = 2 from rfl, hdrop] at this
            rw [show ((2 : Int)).toNat = 2 from rfl, hdrop, hl3, hq] at hcut
            rw [hl3] at hcell
            obtain ⟨adr, rfl, hcells⟩ := HRI.2.2 (by omega)
            have hscj : ∀ r ∈ rls[j], Scalar r := HSC.out _ (List.getElem_mem hltr)
            have HCV := Aside0.mk (fun wy (hb : Below wr.heap.size wr wy) => by
              have h := run_convert_runes (P := Tryd.prog) wy 57 9 21 adr rls[j].length (c0 - 2) rls[j] (Nat.le_refl _) Tryd.underlying57 Tryd.underlying21 Tryd.underlying9 (fun i hi => (hb.cell (World.block_lt_of_cell? _ _ (hcells i hi))).trans (hcells i hi))
              rw [List.take_length, runesBytes_enc _ hscj, hq] at h
              exact h)
            have HQ := Aside0.mk hq
            have hls := line_size rls j hltr
            have hJ5 := HJ.out
            have hsx : (ba (enc rls[j])).size ≤ 5000 := by rw [ba_size]; omega
            rcases hst with ⟨hj0, rfl, rfl, rfl⟩ | ⟨hj0, HRD, ad2, n2, c2, rfl⟩
            · have HN : Aside0 (RD rls (j + 1) (ba [] ++ ba (enc rls[j])) 0) := ⟨by subst hj0; exact RD.first hltr⟩
              have hnil := fun W => Lib.run_eql_slice_nil (P := Tryd.prog) W 57 21 none 0 0 0 0 Tryd.underlying57
              obtain ⟨X, hX⟩ : ∃ X, X = ba (enc rls[j]) := ⟨_, rfl⟩
              rw [← hX] at HCV HN hsx
              have hfs : (ba []).size ≤ 5001 := by decide
              have HFE : Aside0 (PFnHeaderWritten.spec_scFeeds.f 1 0 = some (ba [])) := ⟨feeds_f 0 (by omega) 1 (by omega)⟩
              obtain ⟨F, hF⟩ : ∃ F, F = ba [] := ⟨_, rfl⟩
              rw [← hF] at HN hfs HFE
              clear hX hF hscj HRI hcells hreads hle hi hsz hdrop hl3 hls hJ5 he hq HROW hc0 hj0
              go_wp2_with fail
              refine (PFnHeaderWritten.spec_scFeeds.calls _ _ F _ HFE.out).mono ?_
              rintro e w5 ⟨rfl, b5⟩
              have HB5 := Aside0.mk (HX.out.trans (b5.mono HX.out.size))
              have hcv := HCV.out w5 b5
              clear b5
              go_wp2_with fail
              go_roundw
              case rel => exact ⟨j + 1, 0, F ++ X, by omega, by go_num, rfl, rfl, .inr ⟨by omega, HN, _, _, _, rfl⟩, HB5⟩
              case measure => simp [intOf]; omega
            · have hms := HRD.out.sizes
              have hm : m ≤ 5000 := by omega
              have hbo : bo.size ≤ 5000 := by omega
              have HN := Aside0.mk (HRD.out.more hltr)
              have hfs : (ba (List.replicate (m + 1) 10)).size ≤ 5001 := by rw [ba_size, List.length_replicate]; omega
              have hnil := fun W => Lib.run_eql_slice_nil (P := Tryd.prog) W 57 21 (some ad2) n2 c2 0 0 Tryd.underlying57
              have HFE := Aside0.mk (feeds_f (m + 1) (by omega) (m + 2) (by omega))
              rw [show ((m + 1 : Nat) : Int) = (m : Int) + 1 by omega] at HFE
              obtain ⟨X, hX⟩ : ∃ X, X = ba (enc rls[j]) := ⟨_, rfl⟩
              rw [← hX] at HCV HN hsx
              obtain ⟨F, hF⟩ : ∃ F, F = ba (List.replicate (m + 1) 10) := ⟨_, rfl⟩
              rw [← hF] at HN hfs HFE
              clear hX hF hscj HRI hcells hreads hle hi hsz hdrop hl3 hls hJ5 he hq HROW hc0 hms HRD
              go_wp2_with fail
              refine (PFnHeaderWritten.spec_scFeeds.calls _ _ F _ HFE.out).mono ?_
              rintro e w5 ⟨rfl, b5⟩
              have HB5 := Aside0.mk (HX.out.trans (b5.mono HX.out.size))
              have hcv := HCV.out w5 b5
              clear b5
              go_wp2_with fail
              go_roundw
              case rel => exact ⟨j + 1, 0, bo ++ F ++ X, by omega, by go_num, rfl, rfl, .inr ⟨by omega, HN, _, _, _, rfl⟩, HB5⟩
              case measure => simp [intOf]; omega
        · obtain rfl : j = k := by omega
          rcases hst with ⟨rfl, _⟩ | ⟨hj0, HRD, ad2, n2, c2, rfl⟩
          · omega
          · have hms := HRD.out.sizes
            have hJ5 := HJ.out
            have hm : m ≤ 5000 := by omega
            have hbo : bo.size ≤ 5000 := by omega
            have hnil := fun W => run_neq_slice_nil_any (P := Tryd.prog) W 57 21 (some ad2) n2 c2 0 0 Tryd.underlying57
            have HFI := Aside0.mk (HF.out bo m (by rw [← HNN.out]; exact HRD.out))
            have hfs : (ba (List.replicate (m + 1) 10)).size ≤ 5001 := by rw [ba_size, List.length_replicate]; omega
            have HFE := Aside0.mk (feeds_f (m + 1) (by omega) (m + 2) (by omega))
            rw [show ((m + 1 : Nat) : Int) = (m : Int) + 1 by omega] at HFE
            obtain ⟨F, hF⟩ : ∃ F, F = ba (List.replicate (m + 1) 10) := ⟨_, rfl⟩
            rw [← hF] at HFI hfs HFE
            clear hms hJ5 HRD hF
            rcases hch with rfl | rfl | rfl
            · have e1 := HFI.out.1 rfl
              subst e1
              go_wp2_with fail
              go_ret2
              exact ⟨rfl, HXB.out⟩
            · have e1 := HFI.out.2.1 rfl
              subst e1
              clear HFI
              go_wp2_with fail
              go_ret2
              exact ⟨rfl, HXB.out⟩
            · have e1 := HFI.out.2.2 rfl
              subst e1
              clear HFI
              go_wp2_with fail
              refine (PFnHeaderWritten.spec_scFeeds.calls _ _ F _ HFE.out).mono ?_
              rintro e w5 ⟨rfl, b5⟩
              have HB5 := Aside0.mk (HXB.out.trans (b5.mono HXB.out.size))
              clear b5
              go_wp2_with fail
              go_ret2
              exact ⟨rfl, HB5.out⟩
end Go.Proofs.YtmildhkegpmacaaDoor.HeadRead
