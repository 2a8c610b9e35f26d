/- The walks of FnPartQuotes: zzCount, escapeSingleQuote, and the law. -/
import Derived.Test.YtmildhkegpmacaaDoorQuoteFind
import Derived.Test.YtmildhkegpmacaaDoorQuoteRead
import Derived.Test.YtmildhkegpmacaaDoorBuilder
namespace Go.Proofs.YtmildhkegpmacaaDoor.QuoteEsc
open Go.RowKit Go.Proofs.YtmildhkegpmacaaDoor.PFnPartQuotes Go.Proofs.YtmildhkegpmacaaDoorW.PrintWords Go.Proofs.YtmildhkegpmacaaDoor.Utf Go.Proofs.YtmildhkegpmacaaDoor.Runes Go.Proofs.YtmildhkegpmacaaDoor.QuotePure Go.Proofs.YtmildhkegpmacaaDoor.QuoteFind Go.Proofs.YtmildhkegpmacaaDoor.QuoteRead
set_option linter.unusedVariables false
set_option linter.unusedSimpArgs false

/-- It counts no more than there are bytes. -/
def Counts (n : Nat) (w : World) (e : Ending) (w' : World) : Prop := ∃ m : Nat, m ≤ n ∧ e = .returned (.int .i64 m) ∧ w = w'

set_option maxHeartbeats 1000000 in
set_option maxRecDepth 100000 in
theorem count_any (s : ByteArray) (w : World) (hs : s.size ≤ 140737488351232) :
    Calls Tryd.prog 92 #[.string s, .string ⟨#[39]⟩] w (Counts s.size w) := by
  have h1 : ((⟨#[39]⟩ : ByteArray).size : Int) = 1 := rfl
  go_enter Tryd.func92, Tryd.ntmps92
  go_wp2_with fail
  go_loopw [5, 6] (fun c i wr => ∃ k m : Nat, k ≤ s.size ∧ m ≤ k ∧ i = .int .i64 k ∧ c = .int .i64 m ∧ Aside0 (wr = w)) (fun _ i _ => s.size - (intOf i).toNat)
  case atStart => exact ⟨0, 0, by omega, by omega, rfl, rfl, ⟨rfl⟩⟩
  case round =>
    obtain ⟨k, m, hk, hm, rfl, rfl, ⟨rfl⟩⟩ := hrel
    by_cases hlt : k < s.size
    · go_wp2
      · go_roundw
        case rel => exact ⟨k + 1, m + 1, by omega, by omega, by go_num, by go_num, ⟨by trivial⟩⟩
        case measure => simp [intOf]; omega
      · go_roundw
        case rel => exact ⟨k + 1, m, by omega, by omega, by go_num, by go_num, ⟨by trivial⟩⟩
        case measure => simp [intOf]; omega
    · go_wp2
      go_ret
      exact ⟨m, by omega, rfl, rfl⟩

/-- A builder behind calls that make memory alone. -/
theorem builder_below {B b : Nat} {p : Value} {bs : List Value} {w w1 : World} (h : Lib.BuilderAt 145 5 B b p bs w) (hb : Below w.heap.size w w1) : Lib.BuilderAt 145 5 B b p bs w1 := by
  obtain ⟨h1, v, h2, h3, h4⟩ := h
  have hlt : b < w.heap.size := (Array.getElem?_eq_some_iff.1 h2).1
  exact ⟨h1, v, (hb.block b hlt).trans h2, own_move h3 (fun k hk => hb.block k (own_lt h3 k hk)), h4⟩

set_option maxHeartbeats 2000000 in
set_option maxRecDepth 100000 in
theorem escape_any (s : ByteArray) (w : World) (hs : s.size ≤ 4398046511000) :
    Calls Tryd.prog 62 #[.string s] w fun e w' => e = .returned (.string (ba (39 :: (dqB (B s) ++ [39])))) ∧ Below w.heap.size w w' := by
  have HREP := Aside0.mk (replace_f s hs)
  have hdl := dqB_length (B s)
  rw [B_length] at hdl
  have HCNT := Aside0.mk fun wx => count_any s wx (by omega)
  go_enter Tryd.func62, Tryd.ntmps62
  go_wp2_with fail
  refine (HCNT.out _).mono ?_
  rintro e w1 ⟨m, hm, rfl, rfl⟩
  have hfresh : (w.alloc (.cells #[.pointer none, .slice none 0 0] 145)).heap[w.heap.size]? = some (.cells #[.pointer none, .slice none 0 0] 145 (0, 0)) := heap_alloc_new w _
  have hg := Tryd.Builder_Grow_fresh w.heap.size w.heap.size (s.size + 2 + m) _ (Nat.le_refl _) hfresh (by simp) (by omega)
  rw [show ((s.size + 2 + m : Nat) : Int) = (s.size : Int) + 2 + (m : Int) by omega] at hg
  have HG := Aside0.mk hg
  clear hg hfresh HCNT
  go_wp2_with fail
  refine HG.out.mono ?_
  rintro e w2 ⟨rfl, ha, b2⟩
  have A2 := Aside0.mk ha
  have B2 := Aside0.mk (((Below.refl _ w).alloc (Nat.le_refl _) _).trans b2)
  clear ha b2 HG
  go_wp2_with fail
  refine (writeString w.heap.size w.heap.size [] ⟨#[39]⟩ _ (.inr A2.out) (by show 0 + 1 ≤ _; omega) B2.out.size).mono ?_
  rintro e w3 ⟨rfl, ha, b3⟩
  have A3 := Aside0.mk ha
  have B3 := Aside0.mk (B2.out.trans b3)
  clear ha b3 A2 B2
  go_wp2_with fail
  obtain ⟨k, hk⟩ := HREP.out
  refine (ast_zzReplaceAll.calls k s _ _ _ _ hk).mono ?_
  clear hk
  rintro e w4 ⟨rfl, b4⟩
  have A4 := Aside0.mk (builder_below A3.out b4)
  have B4 := Aside0.mk (B3.out.trans (b4.mono B3.out.size))
  clear b4 A3 B3
  go_wp2_with fail
  refine (writeString w.heap.size w.heap.size _ (ba (dqB (B s))) _ (.inr A4.out) (by rw [ba_size]; simp [Lib.strCells]; omega) B4.out.size).mono ?_
  rintro e w5 ⟨rfl, ha, b5⟩
  have A5 := Aside0.mk ha
  have B5 := Aside0.mk (B4.out.trans b5)
  clear ha b5 A4 B4
  go_wp2_with fail
  refine (writeString w.heap.size w.heap.size _ ⟨#[39]⟩ _ (.inr A5.out) (by rw [List.length_append, Lib.strCells_length, ba_size]; simp [Lib.strCells]; show _ + 1 ≤ _; omega) B5.out.size).mono ?_
  rintro e w6 ⟨rfl, ha, b6⟩
  have A6 := Aside0.mk ha
  have B6 := Aside0.mk (B5.out.trans b6)
  clear ha b6 A5 B5
  have A7 : Aside0 (Lib.IsBuilder 145 5 w.heap.size w.heap.size (Lib.byteCells (39 :: (dqB (B s) ++ [39]))) w6) := ⟨.inr (by
    have h := A6.out
    have e : [] ++ Lib.strCells ⟨#[39]⟩ ++ Lib.strCells (ba (dqB (B s))) ++ Lib.strCells ⟨#[39]⟩ = Lib.byteCells (39 :: (dqB (B s) ++ [39])) := by
      simp [Lib.strCells, Lib.byteCells, ba]
    rw [e] at h
    exact h)⟩
  clear A6
  go_wp2_with fail
  refine (Tryd.Builder_String w.heap.size w.heap.size (39 :: (dqB (B s) ++ [39])) _ A7.out (by simp)).mono ?_
  rintro e w7 ⟨rfl, b7⟩
  have B7 := Aside0.mk (B6.out.trans b7)
  clear b7
  go_wp2_with fail
  go_ret
  exact ⟨rfl, B7.out⟩

set_option maxRecDepth 100000 in
theorem zzquote_any (s : ByteArray) (w : World) (hs : s.size ≤ 4398046511000) :
    Calls Tryd.prog 41 #[.string s] w fun e w' => e = .returned (.string (ba (39 :: (dqB (B s) ++ [39])))) ∧ Below w.heap.size w w' := by
  have C := Aside0.mk fun wx => escape_any s wx hs
  go_enter Tryd.func41, Tryd.ntmps41
  go_wp2_with fail
  refine (C.out _).mono ?_
  rintro e w1 ⟨rfl, b1⟩
  have B1 := Aside0.mk b1
  clear b1
  go_wp2_with fail
  go_ret
  exact ⟨rfl, B1.out⟩

set_option maxRecDepth 100000 in
theorem quote_any (s : ByteArray) (w : World) (hs : s.size ≤ 4398046511000) :
    Calls Tryd.prog 17 #[.string s] w fun e w' => e = .returned (.string (ba (39 :: (dqB (B s) ++ [39])))) ∧ Below w.heap.size w w' := by
  have C := Aside0.mk fun wx => zzquote_any s wx hs
  go_enter Tryd.func17, Tryd.ntmps17
  go_wp2_with fail
  refine (C.out _).mono ?_
  rintro e w1 ⟨rfl, b1⟩
  have B1 := Aside0.mk b1
  clear b1
  go_wp2_with fail
  go_ret
  exact ⟨rfl, B1.out⟩

set_option maxHeartbeats 2000000 in
set_option maxRecDepth 100000 in
theorem law_any (s : ByteArray) (w : World) (hs : s.size ≤ 140737488351232) (hT : Tabs w) :
    Calls Tryd.prog 4 #[.string s] w fun e w' => e = .returned (.bool true) ∧ Below w.heap.size w w' := by
  by_cases hbig : 2147483647 < s.size
  · clear hT
    go_enter Tryd.func4, Tryd.ntmps4
    go_wp2_with fail
    go_ret
    exact ⟨rfl, Below.refl _ _⟩
  · by_cases h1000 : 1000 < s.size
    · clear hT
      go_enter Tryd.func4, Tryd.ntmps4
      go_wp2_with fail
      go_ret
      exact ⟨rfl, Below.refl _ _⟩
    · by_cases hrow : mayStand false s
      · have CR := Aside0.mk (row_yes s w hT hrow)
        obtain ⟨h64, rs, hsc, hen, hal⟩ := hrow
        have CQ := Aside0.mk fun wx => quote_any s wx (by omega)
        have hdl := dqB_length (B s)
        rw [B_length] at hdl
        have CI := Aside0.mk (inside_f (dqB (B s)) (by omega))
        have he : B (ba (dqB (B s))) = enc (dq rs) := by rw [B_ba, hen, enc_dq rs hsc]
        have CS := Aside0.mk fun wx (hTx : Tabs wx) => single_any (ba (dqB (B s))) rs wx hTx (by rw [ba_size]; omega) hsc hal he
        have hse : ba (enc rs) = s := by rw [← hen, ba_B]
        rw [hse] at CS
        have HT := Aside0.mk hT
        clear hsc hen hal he hse hT hdl
        obtain ⟨q, hq⟩ : ∃ q, q = ba (39 :: (dqB (B s) ++ [39])) := ⟨_, rfl⟩
        rw [← hq] at CQ CI
        clear hq
        obtain ⟨d, hd⟩ : ∃ d, d = ba (dqB (B s)) := ⟨_, rfl⟩
        rw [← hd] at CI CS
        clear hd
        go_enter Tryd.func4, Tryd.ntmps4
        go_wp2_with fail
        refine CR.out.mono ?_
        rintro e w1 ⟨rfl, b1⟩
        have B1 := Aside0.mk b1
        clear b1
        go_wp2_with fail
        refine (CQ.out _).mono ?_
        rintro e w2 ⟨rfl, b2⟩
        have B2 := Aside0.mk (B1.out.trans (b2.mono B1.out.size))
        clear b2
        go_wp2_with fail
        refine (laws_lxInside.calls q ⟨#[39]⟩ d true _ CI.out).mono ?_
        rintro e w3 ⟨rfl, b3⟩
        have B3 := Aside0.mk (B2.out.trans (b3.below.mono B2.out.size))
        clear b3
        go_wp2_with fail
        refine (CS.out _ (tabs_below HT.out B3.out)).mono ?_
        rintro e w4 ⟨rfl, b4⟩
        have B4 := Aside0.mk (B3.out.trans (b4.mono B3.out.size))
        clear b4
        go_wp2_with fail
        go_ret
        exact ⟨rfl, B4.out⟩
      · have CR := Aside0.mk (row_no s w hT hs hrow)
        clear hrow hT
        go_enter Tryd.func4, Tryd.ntmps4
        go_wp2_with fail
        refine CR.out.mono ?_
        rintro e w1 ⟨rfl, b1⟩
        have B1 := Aside0.mk b1
        clear b1
        go_wp2_with fail
        go_ret
        exact ⟨rfl, B1.out⟩
end Go.Proofs.YtmildhkegpmacaaDoor.QuoteEsc
