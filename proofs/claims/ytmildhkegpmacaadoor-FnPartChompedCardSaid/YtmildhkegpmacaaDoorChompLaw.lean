/- FnPartChomped: ZzChomped, impl.Chomped and the law. -/
import Derived.Test.YtmildhkegpmacaaDoorChompClip
namespace Go.Proofs.YtmildhkegpmacaaDoor.ChompLaw
open Go.RowKit Go.Proofs.YtmildhkegpmacaaDoorW.PrintWords Go.Proofs.YtmildhkegpmacaaDoor.Utf Go.Proofs.YtmildhkegpmacaaDoor.ChompWalks Go.Proofs.YtmildhkegpmacaaDoor.ChompPure Go.Proofs.YtmildhkegpmacaaDoor.ChompBuf Go.Proofs.YtmildhkegpmacaaDoor.ChompClip Go.Proofs.YtmildhkegpmacaaDoor.PFnPartChomped
open Go.Proofs.YtmildhkegpmacaaDoor.Runes (Reads Tabs tabs_below mayStand rows_yes rows_no all)
set_option linter.unusedVariables false
set_option linter.unusedSimpArgs false

set_option maxHeartbeats 2000000 in
set_option maxRecDepth 100000 in
theorem zz_any (s o : ByteArray) (b : Bool) (L R : List Int) (hL : L.length ≤ 5100) (hs : s.size ≤ 65536) (hsc : ∀ r ∈ L, Scalar r) (he : B s = enc L) (hscR : ∀ r ∈ R, Scalar r)
    (hbuf : ∀ g m gb n cap w, At w g m o gb n cap L → Calls Tryd.prog 64 #[.pointer (some ⟨g, 0, none⟩)] w (Back R w)) (w : World) :
    Calls Tryd.prog 43 #[.string s, .string o, .bool b] w fun e w' => e = .returned (.string (ba (enc R))) ∧ Below w.heap.size w w' := by
  have CA := Aside0.mk (at_any w)
  obtain ⟨N, hN⟩ : ∃ N, N = L.length := ⟨_, rfl⟩
  have HTR := Aside0.mk fun W => to_runes s L N hN hs hsc he W
  have HNR := Aside0.mk fun W C => new_reads s L hsc he W C
  have HB := Aside0.mk hbuf
  have HSR := Aside0.mk fun W g n cap hn (hR : Reads W g R) => to_str W g R n cap hn hR hscR
  have HN := Aside0.mk hN
  rw [← hN] at hL
  clear hsc he hscR hbuf hN
  go_enter Tryd.func43, Tryd.ntmps43
  go_wp2_with fail
  refine CA.out.mono ?_
  rintro e w1 ⟨p, g, src, tok, rfl, hg, h1, b1⟩
  have B1 := Aside0.mk b1
  have hrn := HTR.out w1
  obtain ⟨C, hC⟩ : ∃ C, C = Array.replicate (grownCap w1 N 0 21 - N) (Value.int .i32 0) := ⟨_, rfl⟩
  have hge := grownCap_ge w1 N 0 21
  obtain ⟨cap, hcap⟩ : ∃ cap, cap = grownCap w1 N 0 21 := ⟨_, rfl⟩
  obtain ⟨gb, hgb⟩ : ∃ gb, gb = w1.heap.size := ⟨_, rfl⟩
  rw [← hC, ← hcap, ← hgb] at hrn
  rw [← hcap] at hge
  have hgl := blk_lt h1
  obtain ⟨W, hW⟩ : ∃ W, W = (w1.drew.alloc (.cells (Conv.runesFrom s s.size 0 #[] ++ C) 21)) := ⟨_, rfl⟩
  have hBW : Below w1.heap.size w1 W := by rw [hW]; exact (Below.refl _ w1).drew.alloc (Nat.le_refl _) _
  have hrd : Reads W gb L := by rw [hW, hgb]; exact HNR.out w1 C
  have hgbW : gb < W.heap.size := by rw [hW, hgb]; show _ < (w1.drew.heap.push _).size; simp
  rw [← hW] at hrn
  have h2 : Ctx W g 0 0 0 0 src (.slice none 0 0) (.slice none 0 0) tok (.pointer none) := blk_below h1 hBW
  have hgne : gb ≠ g := by rw [hgb]; omega
  have hgW : g < W.heap.size := Nat.lt_of_lt_of_le hgl hBW.size
  have x5 := blk_cell h2 5
  have x2 := blk_cell h2 2
  have x8 := blk_cell h2 8
  have f5 := blk_frozen h2 5
  have f2 := blk_frozen h2 2
  have f8 := blk_frozen h2 8
  simp only [List.getElem?_toArray, List.getElem?_cons_succ, List.getElem?_cons_zero] at x5 x2 x8
  have H2 := Aside0.mk h2
  have HBW := Aside0.mk hBW
  have HRD := Aside0.mk hrd
  have h3 := blk_set (blk_set h2 5 (.slice (some ⟨gb, 0, none⟩) N cap)) 2 (.int .i64 (N : Int))
  have H3 := Aside0.mk h3
  clear h1 b1 hC hcap hgb hW h2 hBW hrd CA h3
  go_wp2_with fail
  obtain ⟨X0, hX0⟩ : ∃ X0, X0 = (((W.setCell { block := g, off := 5 } (Value.slice (some { block := gb, off := 0 }) N cap)).setCell { block := g, off := 2 } (Value.int IntKind.i64 ↑N)).setCell { block := g, off := 8 } (Value.pointer (some { block := W.heap.size, off := 0 }))) := ⟨_, rfl⟩
  have hsz : X0.heap.size = W.heap.size := by rw [hX0]; simp
  have hB0 : Below w.heap.size w X0 := by
    rw [hX0]
    exact below_sets (below_sets (below_sets (B1.out.trans (HBW.out.mono B1.out.size)) hg _ _) hg _ _) hg _ _
  have hR0 : Reads X0 gb L := by
    intro j hj
    rw [hX0, cell_far (by simpa using hgne), cell_far (by simpa using hgne), cell_far (by simpa using hgne)]
    exact HRD.out j hj
  have hC0 : Ctx X0 g 0 0 N 0 src (.slice (some ⟨gb, 0, none⟩) N cap) (.slice none 0 0) tok (.pointer (some ⟨W.heap.size, 0, none⟩)) := by
    have h := blk_set H3.out 8 (.pointer (some ⟨W.heap.size, 0, none⟩))
    unfold Ctx
    rw [hX0, h]
    rfl
  rw [← hX0]
  obtain ⟨SG, hSG⟩ : ∃ SG, SG = (Obj.cells #[Value.string o, Value.int IntKind.i64 0, Value.int IntKind.i64 0, Value.int IntKind.i64 0, Value.int IntKind.i64 0, Value.int IntKind.i64 0, Value.bool false, Value.bool false, Value.bool !b, Value.bool b] 100) := ⟨_, rfl⟩
  have hBX : Below X0.heap.size X0 (X0.alloc SG) := (Below.refl _ X0).alloc (Nat.le_refl _) _
  have hAt : At (X0.alloc SG) g W.heap.size o gb N cap L := ⟨⟨0, 0, 0, src, _, tok, blk_below hC0 hBX⟩, ⟨!b, b, by
    have := blk_new X0 SG
    rw [hsz, hSG] at this
    unfold Sign
    rw [hSG]
    exact this⟩, HN.out, hge, hR0.below hBX⟩
  have CB := Aside0.mk (HB.out _ _ _ _ _ _ hAt)
  have BX := Aside0.mk (hB0.trans (hBX.mono hB0.size))
  rw [← hSG]
  clear hAt hBX hC0 hR0 hB0 hX0 hSG HB x5 x2 x8 f5 f2 f8 H3 H2 HRD HBW
  refine CB.out.mono ?_
  rintro e w2 ⟨g2, n2, c2, rfl, hn2, hr2, b2⟩
  have B2 := Aside0.mk (BX.out.trans (b2.mono BX.out.size))
  have hts := HSR.out w2 g2 n2 c2 hn2 hr2
  obtain ⟨S, hS⟩ : ∃ S, S = ba (enc R) := ⟨_, rfl⟩
  rw [← hS] at hts
  have HS := Aside0.mk hS
  clear b2 hr2 hn2 hrn hS
  go_wp2_with fail
  go_ret
  refine ⟨?_, B2.out⟩
  rw [← HS.out]
  rfl

set_option maxRecDepth 100000 in
theorem chomped_any (s o r : ByteArray) (b : Bool) (w : World) (C : ∀ w, Calls Tryd.prog 43 #[.string s, .string o, .bool b] w fun e w' => e = .returned (.string r) ∧ Below w.heap.size w w') :
    Calls Tryd.prog 20 #[.string s, .string o, .bool b] w fun e w' => e = .returned (.string r) ∧ Below w.heap.size w w' := by
  have C := Aside0.mk C
  go_enter Tryd.func20, Tryd.ntmps20
  go_wp2_with fail
  refine (C.out _).mono ?_
  rintro e w1 ⟨rfl, b1⟩
  have B1 := Aside0.mk b1
  clear b1
  go_wp2_with fail
  go_ret
  exact ⟨rfl, B1.out⟩

/-- The three calls at a text with q line feeds behind it. -/
theorem three (rs : List Int) (q : Nat) (b : Bool) (hsc : ∀ r ∈ rs, Scalar r) (hn : (enc rs).length ≤ 1000) (hq : q ≤ 20) (hne : enc rs ≠ []) (h10 : (enc rs).getLast? ≠ some 10) (h32 : (enc rs).getLast? ≠ some 32) :
    (∀ w, Calls Tryd.prog 20 #[.string (E (enc rs) q), .string ⟨#[45]⟩, .bool b] w fun e w' => e = .returned (.string (E (enc rs) 0)) ∧ Below w.heap.size w w') ∧
    (∀ w, Calls Tryd.prog 20 #[.string (E (enc rs) q), .string ⟨#[]⟩, .bool b] w fun e w' => e = .returned (.string (E (enc rs) (min q 1))) ∧ Below w.heap.size w w') ∧
    (∀ w, Calls Tryd.prog 20 #[.string (E (enc rs) q), .string ⟨#[43]⟩, .bool b] w fun e w' => e = .returned (.string (E (enc rs) q)) ∧ Below w.heap.size w w') := by
  have hrl := (enc_length rs).1
  have hrp : 1 ≤ rs.length := by
    cases rs with
    | nil => exact absurd rfl hne
    | cons a b => simp
  have hl10 : rs.getD (rs.length - 1) 0 ≠ 10 := by
    intro h
    apply h10
    have e : rs = rs.take (rs.length - 1) ++ [10] := by
      conv => lhs; rw [← List.take_append_drop (rs.length - 1) rs, List.drop_eq_getElem_cons (by omega)]
      rw [List.getD_eq_getElem?_getD, List.getElem?_eq_getElem (by omega)] at h
      simp only [Option.getD_some] at h
      rw [h, List.drop_eq_nil_of_le (by omega)]
    rw [e, enc_append, enc_cons, encodeRune_ascii 10 (by omega) (by omega), enc_nil]
    simp
  have hLs := feeds_scalar rs q hsc
  have hsz : (E (enc rs) q).size ≤ 65536 := by rw [E_size]; omega
  have hLl : (rs ++ List.replicate q 10).length ≤ 5100 := by simp; omega
  have e0 : ba (enc rs) = E (enc rs) 0 := by unfold E; simp
  have eq' : ∀ k, ba (enc (rs ++ List.replicate k 10)) = E (enc rs) k := fun k => by rw [enc_E]; rfl
  refine ⟨fun w => chomped_any _ _ _ _ _ fun w => ?_, fun w => chomped_any _ _ _ _ _ fun w => ?_, fun w => chomped_any _ _ _ _ _ fun w => ?_⟩
  · rw [← e0]
    exact zz_any _ _ b _ rs hLl hsz hLs (by rw [enc_E]; rfl) hsc (fun g m gb n cap w h => trim_any g m gb n cap rs q w h hsc (by omega) (by omega) hne h10 h32) w
  · rw [← eq' (min q 1)]
    exact zz_any _ _ b _ _ hLl hsz hLs (by rw [enc_E]; rfl) (feeds_scalar rs _ hsc) (fun g m gb n cap w h => clip_any g m gb n cap rs q w h hsc (by omega) (by omega) hne h10 hl10) w
  · have hz := fun w => zz_any (E (enc rs) q) ⟨#[43]⟩ b _ _ hLl hsz hLs (by rw [enc_E]; rfl) hLs (fun g m gb n cap w h => keep_any g m gb n cap _ w h hLs (by have := h.hn; rw [this]; simp; omega) (by have := h.hn; rw [this]; simp; omega) (by rw [eq']; exact ne_feed (enc rs) q hne h10)) w
    rw [eq'] at hz
    exact hz w

theorem E_snoc (l : List UInt8) (k : Nat) : E l k ++ ⟨#[10]⟩ = E l (k + 1) := by
  refine eq_of_B ?_
  simp [E, B, ba, List.replicate_succ']

set_option maxHeartbeats 4000000 in
set_option maxRecDepth 100000 in
theorem law_any (s : ByteArray) (more : Int) (b : Bool) (w : World) (hs : s.size ≤ 140737488351232) (hmo : (Lit.int .i64 more).wf = true) (hT : Tabs w) :
    Calls Tryd.prog 5 #[.string s, .int .i64 more, .bool b] w fun e w' => e = .returned (.bool true) ∧ Below w.heap.size w w' := by
  by_cases hbig : 2147483647 < s.size
  · clear hT
    go_enter Tryd.func5, Tryd.ntmps5
    go_wp2_with fail
    go_ret
    exact ⟨rfl, Below.refl _ _⟩
  · by_cases h1000 : 1000 < s.size
    · clear hT
      go_enter Tryd.func5, Tryd.ntmps5
      go_wp2_with fail
      go_ret
      exact ⟨rfl, Below.refl _ _⟩
    · cases hnil : (s.toList == []) with
      | true =>
        clear hT
        go_enter Tryd.func5, Tryd.ntmps5
        go_wp2_with fail
        go_ret
        exact ⟨rfl, Below.refl _ _⟩
      | false =>
        have hsn : B s ≠ [] := by
          have := beq_eq_false_iff_ne.1 hnil
          rw [ByteArray.toList_eq] at this
          exact this
        have hpos : 0 < s.size := by
          rw [← B_length]
          exact List.length_pos_iff.2 hsn
        by_cases hm0 : more < 0
        · clear hT
          go_enter Tryd.func5, Tryd.ntmps5
          go_wp2_with fail
          go_ret
          exact ⟨rfl, Below.refl _ _⟩
        · by_cases hm20 : 20 < more
          · clear hT
            go_enter Tryd.func5, Tryd.ntmps5
            go_wp2_with fail
            go_ret
            exact ⟨rfl, Below.refl _ _⟩
          · obtain ⟨q, rfl⟩ : ∃ q : Nat, more = (q : Int) := ⟨more.toNat, by omega⟩
            have hq : q ≤ 20 := by omega
            clear hm0 hm20 hmo
            by_cases hrows : mayStand true s
            · have CR := Aside0.mk (rows_yes s w hT hrows)
              obtain ⟨c, l, hcl⟩ : ∃ c l, B s = l ++ [c] := ⟨(B s).getLast hsn, (B s).dropLast, (List.dropLast_concat_getLast hsn).symm⟩
              have hex : s.extract (s.size - 1) s.size = ba [c] := by
                refine eq_of_B ?_
                show (s.extract _ _).data.toList = [c]
                have hl : l.length = s.size - 1 := by
                  have := congrArg List.length hcl
                  rw [B_length, List.length_append] at this
                  simp at this
                  omega
                rw [Lib.extract_data, show s.data.toList = l ++ [c] from hcl, ← hl, List.drop_left]
                exact List.take_of_length_le (by simp; omega)
              have HH := Aside0.mk (has_f c)
              by_cases hc : c = 32 ∨ c = 9 ∨ c = 10
              · rw [decide_eq_true hc] at HH
                obtain ⟨T, hTT⟩ : ∃ T, T = ba [c] := ⟨_, rfl⟩
                rw [← hTT] at hex HH
                clear hT hrows hcl hc hTT hsn
                go_enter Tryd.func5, Tryd.ntmps5
                go_wp2_with fail
                refine CR.out.mono ?_
                rintro e w1 ⟨rfl, b1⟩
                have B1 := Aside0.mk b1
                clear b1
                go_wp2_with fail
                refine (spec_Has.calls 8 T ⟨#[32, 9, 10]⟩ true _ HH.out).mono ?_
                rintro e w2 ⟨rfl, b2⟩
                have B2 := Aside0.mk (B1.out.trans (b2.below.mono B1.out.size))
                clear b2
                go_wp2_with fail
                go_ret
                exact ⟨rfl, B2.out⟩
              · rw [decide_eq_false hc] at HH
                obtain ⟨h64, rs, hsc, hen, hal⟩ := hrows
                have hlast : (enc rs).getLast? = some c := by rw [← hen, hcl]; simp
                have h3 := three rs q b hsc (by rw [← hen, B_length]; omega) hq (by rw [← hen]; exact hsn) (by rw [hlast]; intro h; exact hc (.inr (.inr (Option.some.inj h)))) (by rw [hlast]; intro h; exact hc (.inl (Option.some.inj h)))
                have hse : s = E (enc rs) 0 := by
                  refine eq_of_B ?_
                  rw [hen]
                  show enc rs = enc rs ++ List.replicate 0 10
                  simp
                have HE := Aside0.mk fun k => E_snoc (enc rs) k
                have HES := Aside0.mk fun k => E_size (enc rs) k
                have hel : (enc rs).length ≤ 1000 := by rw [← hen, B_length]; omega
                obtain ⟨F, hF⟩ : ∃ F : Nat → ByteArray, F = E (enc rs) := ⟨_, rfl⟩
                rw [← hF] at h3 hse HE HES
                obtain ⟨len, hlen⟩ : ∃ len, len = (enc rs).length := ⟨_, rfl⟩
                rw [← hlen] at HES hel
                have C1 := Aside0.mk h3.1
                have C2 := Aside0.mk h3.2.1
                have C3 := Aside0.mk h3.2.2
                have HSE := Aside0.mk hse
                rw [← hse] at C1
                obtain ⟨T, hTT⟩ : ∃ T, T = ba [c] := ⟨_, rfl⟩
                rw [← hTT] at hex HH
                clear hT hcl hc hTT hsn hsc hen hal hlast h3 hse hF hlen
                go_enter Tryd.func5, Tryd.ntmps5
                go_wp2_with fail
                refine CR.out.mono ?_
                rintro e w1 ⟨rfl, b1⟩
                have B1 := Aside0.mk b1
                clear b1
                go_wp2_with fail
                refine (spec_Has.calls 8 T ⟨#[32, 9, 10]⟩ false _ HH.out).mono ?_
                rintro e w2 ⟨rfl, b2⟩
                have B2 := Aside0.mk (B1.out.trans (b2.below.mono B1.out.size))
                clear b2
                go_wp2_with fail
                go_loopw [7, 8] (fun a i wr => ∃ k : Nat, k ≤ q ∧ a = .string (F k) ∧ i = .int .i64 k ∧ Aside0 (wr = w2)) (fun _ i _ => q - (intOf i).toNat)
                case atStart => exact ⟨0, by omega, by rw [← HSE.out], rfl, ⟨rfl⟩⟩
                case round =>
                  obtain ⟨k, hk, rfl, rfl, ⟨rfl⟩⟩ := hrel
                  have hfs : (F k).size ≤ 1020 := by rw [HES.out k]; omega
                  by_cases hlt : k < q
                  · go_wp2_with fail
                    go_roundw
                    case rel => exact ⟨k + 1, by omega, by rw [← HE.out k], by go_num, ⟨by trivial⟩⟩
                    case measure => simp [intOf]; omega
                  · obtain rfl : k = q := by omega
                    clear hlt
                    by_cases hk0 : 0 < k
                    · have hone : Aside0 (s ++ ⟨#[10]⟩ = F (min k 1)) := ⟨by rw [show min k 1 = 0 + 1 by omega, ← HE.out 0, ← HSE.out]⟩
                      obtain ⟨O, hO⟩ : ∃ O, O = F (min k 1) := ⟨_, rfl⟩
                      rw [← hO] at C2 hone
                      have hOs : O.size ≤ 1020 := by rw [hO, HES.out]; omega
                      obtain ⟨Q, hQ⟩ : ∃ Q, Q = F k := ⟨_, rfl⟩
                      rw [← hQ] at C1 C2 C3 hfs ⊢
                      have hone2 := hone.out
                      clear hO hQ
                      go_wp2_with fail
                      refine (C1.out _).mono ?_
                      rintro e w3 ⟨rfl, b3⟩
                      have B3 := Aside0.mk (B2.out.trans (b3.mono B2.out.size))
                      clear b3
                      go_wp2_with fail
                      refine (C2.out _).mono ?_
                      rintro e w4 ⟨rfl, b4⟩
                      have B4 := Aside0.mk (B3.out.trans (b4.mono B3.out.size))
                      clear b4
                      go_wp2_with fail
                      refine (C3.out _).mono ?_
                      rintro e w5 ⟨rfl, b5⟩
                      have B5 := Aside0.mk (B4.out.trans (b5.mono B4.out.size))
                      clear b5
                      go_wp2_with fail
                      go_ret
                      exact ⟨rfl, B5.out⟩
                    · obtain rfl : k = 0 := by omega
                      rw [show min 0 1 = 0 from rfl, ← HSE.out] at C2
                      rw [← HSE.out] at C1 C3 hfs ⊢
                      go_wp2_with fail
                      refine (C1.out _).mono ?_
                      rintro e w3 ⟨rfl, b3⟩
                      have B3 := Aside0.mk (B2.out.trans (b3.mono B2.out.size))
                      clear b3
                      go_wp2_with fail
                      refine (C2.out _).mono ?_
                      rintro e w4 ⟨rfl, b4⟩
                      have B4 := Aside0.mk (B3.out.trans (b4.mono B3.out.size))
                      clear b4
                      go_wp2_with fail
                      refine (C3.out _).mono ?_
                      rintro e w5 ⟨rfl, b5⟩
                      have B5 := Aside0.mk (B4.out.trans (b5.mono B4.out.size))
                      clear b5
                      go_wp2_with fail
                      go_ret
                      exact ⟨rfl, B5.out⟩
            · have CR := Aside0.mk (rows_no s w hT hs hrows)
              clear hrows hT
              go_enter Tryd.func5, Tryd.ntmps5
              go_wp2_with fail
              refine CR.out.mono ?_
              rintro e w1 ⟨rfl, b1⟩
              have B1 := Aside0.mk b1
              clear b1
              go_wp2_with fail
              go_ret
              exact ⟨rfl, B1.out⟩
end Go.Proofs.YtmildhkegpmacaaDoor.ChompLaw
