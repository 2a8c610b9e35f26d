/- The tied card of FnQuotesWords: for every input that can be read the law returns true, and its arguments stay as they were; the listed variables of the library are those of the program's text. The walk is QWords.law_any. -/
import Derived.Test.YtlkbhmmelejmjaaGreatDoorCards
import Derived.Test.YtlkbhmmelejmjaaGreatDoorTie
import Derived.Test.YtlkbhmmelejmjaaGreatDoorPkFnQuotesWords12
import Derived.WalkKit
import Derived.ProofKit
import Derived.OpenShut
import Derived.ShutString
import Derived.ChangeOld
import Derived.Below
import Derived.SizedLaws
import Derived.PinnedBridge
import Derived.Lay
import Derived.LaidOnce
import Derived.SevenTiedAt
import Derived.Lib.LaidIn
import Derived.Lib.LaidU8T
import Derived.Stop.LaidErr
namespace Go.Proofs.YtlkbhmmelejmjaaGreatDoor.fnQuotesWords
open Go.ChangeShapes Go.WideShapes Go.ChangeAt Go.RowKit Go.Lib Go.Shelf
open Go.ChangeMaps (open_string shut_string)
set_option linter.unusedVariables false
theorem own : ownKnob Tryz.prog.godebug = none := by kernel_rfl
theorem tabs {W : World} (hL : laidMetH Tryz.prog Rows.fnQuotesWordsRow.laid W) : FltAtof.Tabs W.heap.size FltLaid.HF FltLaid.OF FltLaid.XF W ∧ ∃ EV, NumErr.Errs W.heap.size EV W ∧ NumIs.ErrB W.heap.size EV W := by
  rw [MakeChecks.laidMetH_plain _ _ _ (by kernel_rfl)] at hL
  have r1 : VarReads Tryz.prog W "internal/strconv.leftcheats" Pinned.leftcheats := Lib.laidMet.reads hL (.tail _ (.tail _ (.tail _ (.tail _ (.tail _ (.tail _ (.tail _ (.tail _ (.tail _ (.tail _ (.tail _ (.tail _ (.head _)))))))))))))
  have r2 : VarReads Tryz.prog W "internal/strconv.powtab" FltLaid.powD := (show Rows.laid_internal_strconv_powtab = FltLaid.powD by kernel_rfl) ▸ Lib.laidMet.reads hL (.tail _ (.tail _ (.tail _ (.tail _ (.tail _ (.head _))))))
  have r3 : VarReads Tryz.prog W "internal/strconv.float64info" (FltLaid.infoD 52 11 (-1023)) := (show Rows.laid_internal_strconv_float64info = FltLaid.infoD 52 11 (-1023) by kernel_rfl) ▸ Lib.laidMet.reads hL (.tail _ (.tail _ (.tail _ (.head _))))
  have r4 : VarReads Tryz.prog W "internal/strconv.pow10Tab" Pinned.pow10Tab := Lib.laidMet.reads hL (.tail _ (.tail _ (.tail _ (.tail _ (.tail _ (.tail _ (.tail _ (.tail _ (.tail _ (.tail _ (.tail _ (.tail _ (.tail _ (.head _))))))))))))))
  have r5 : VarReads Tryz.prog W "internal/strconv.float64pow10" FltLaid.tenD := (show Rows.laid_internal_strconv_float64pow10 = FltLaid.tenD by kernel_rfl) ▸ Lib.laidMet.reads hL (.tail _ (.tail _ (.tail _ (.tail _ (.tail _ (.tail _ (.head _)))))))
  have r6 : VarReads Tryz.prog W "internal/strconv.optimize" (.lit (.bool true)) := (show Rows.laid_internal_strconv_optimize = .lit (.bool true) by kernel_rfl) ▸ Lib.laidMet.reads hL (.tail _ (.tail _ (.tail _ (.tail _ (.head _)))))
  exact ⟨⟨FltLaid.lt_of r1, FltLaid.pt_of r2, FltLaid.fi_of r3, FltLaid.tt_of r4, FltLaid.xt_of r5, FltLaid.pos_at, FltLaid.pq_of hL (.tail _ (.tail _ (.tail _ (.head _)))) (.tail _ (.tail _ (.head _))), FltLaid.op_of r6⟩, FltLaid2.errs_both hL (.tail _ (.tail _ (.tail _ (.tail _ (.tail _ (.tail _ (.tail _ (.tail _ (.tail _ (.tail _ (.head _))))))))))) (.tail _ (.tail _ (.tail _ (.tail _ (.tail _ (.tail _ (.tail _ (.tail _ (.tail _ (.tail _ (.tail _ (.head _))))))))))))⟩
theorem utfs {W : World} (hL : laidMetH Tryz.prog Rows.fnQuotesWordsRow.laid W) : Runes.Tabs W := by
  rw [MakeChecks.laidMetH_plain _ _ _ (by kernel_rfl)] at hL
  have h4 : VarReads Tryz.prog W "unicode/utf8.acceptRanges" Lib.acceptData := (show Rows.laid_unicode_utf8_acceptRanges = Lib.acceptData by kernel_rfl) ▸ Lib.laidMet.reads hL (.tail _ (.tail _ (.tail _ (.tail _ (.tail _ (.tail _ (.tail _ (.tail _ (.tail _ (.head _))))))))))
  have h3 : VarReads Tryz.prog W "unicode/utf8.first" Lib.firstData := Pinned.utf8First_eq ▸ Lib.laidMet.reads hL (.tail _ (.tail _ (.tail _ (.tail _ (.tail _ (.tail _ (.tail _ (.tail _ (.tail _ (.tail _ (.tail _ (.tail _ (.tail _ (.tail _ (.head _)))))))))))))))
  exact utf8Tabs_of_readsT (U8Types.of196 Tryz.laysValid) ⟨by kernel_rfl, by kernel_rfl, by kernel_rfl, by kernel_rfl, by kernel_rfl, by kernel_rfl, by kernel_rfl⟩ h3 h4
set_option maxRecDepth 100000 in
theorem lifted (os : Os) (started : os.Started) (H : Type) (enc : TypeId × Value → H) :
    ReturnsInHanded {} Tryz.checked os 7 .any (fun w args => (Rows.fnQuotesWordsSpec.pre enc Tryz.prog Tryz.f7 [] false w args ∧ laidMetH Tryz.prog Rows.fnQuotesWordsRow.laid w) ∧ sizedMet enc Tryz.prog Tryz.f7 (OpenSpec.ofChange Rows.fnQuotesWordsSpec) false w args)
      (Rows.fnQuotesWordsSpec.post enc Tryz.prog Tryz.f7 false true false false) := by
  refine returnsInHanded_of_change_and (C := Tryz.checked) (X := fun w _ => laidMetH Tryz.prog Rows.fnQuotesWordsRow.laid w) (fun _ _ _ hh h => h.of_heap hh) own started (by kernel_rfl) Tryz.func7
    (ChangeSpec.witness_shaped (enc := enc) (C := Tryz.checked) (os := os) (X := fun w _ => laidMetH Tryz.prog Rows.fnQuotesWordsRow.laid w) false (World.laidAll Tryz.prog os Rows.fnQuotesWordsRow.laid) #[.string ⟨#[]⟩] 8 (World.laidAll_os _ _ _)
      (World.shaped_of_ZipB (by kernel_rfl) (by kernel_rfl)) (by kernel_rfl) (by kernel_rfl) (by kernel_rfl)
      (by rw [MakeChecks.laidMetH_plain _ _ _ (by kernel_rfl)]; exact laidMet_laidAll _ (by kernel_rfl) (by kernel_rfl))) ?_
  intro W base args ds gs before hval0 hW hcnd hsz0 hL _
  have hsz : (DataW.weightsEach Tryz.prog (Tryz.f7.params.toList ++ Rows.fnQuotesWordsSpec.plain.varTypes Tryz.prog) (ds ++ gs)).all (· ≤ reachBytes) = true := hsz0
  have hval : ∀ (j : Nat) t v, Tryz.f7.params[j]? = some t → args[j]? = some v → Value.okWide Tryz.prog W .any base t v := hval0
  have hW' := hW
  obtain ⟨p, q, hA0, hV, rfl, _, _⟩ := hW
  have hA : DataW.TrodAll enc Tryz.prog W 0 (fun _ => true) true Tryz.f7.params.toList args.toList ds p := hA0
  rw [Tryz.params7] at hA hval hsz
  obtain ⟨v0, vs0, d0, ds0, p0, q0, hargs, rfl, rfl, h0, r0⟩ := trodAll_cons hA
  obtain ⟨rfl, rfl, rfl⟩ := trodAll_nil r0
  obtain rfl : args = #[v0] := by cases args; simp_all
  obtain ⟨rfl, rfl⟩ := trodVars_none hV
  obtain ⟨a0, rfl, rfl, rfl, y0⟩ := open_string Tryz.underlying9 (hval 0 9 v0 rfl rfl) h0
  have w0 : a0.size ≤ 140737488351232 := by
    have z := sized_string hsz (j := 0) (t := 9) rfl rfl
    rw [Array.length_toList] at z
    exact z
  obtain ⟨hT, EV, hE, hX⟩ := tabs hL
  have hU := utfs hL
  clear hA0 hval0 hsz0 hsz hL
  refine (QWords.law_any W.heap.size FltLaid.HF FltLaid.OF FltLaid.XF EV a0 W (Nat.le_refl _) hT hE hX hU w0).mono fun e W' ⟨he, bel⟩ => ?_
  subst he
  exact ⟨_, rfl, _, _, _, [], _, [], hW', trodAll_mk1 (shut_bool Tryz.underlying4 _), (trodAll_cons_mk (shut_string Tryz.underlying9 y0) trodAll_mk0), rfl, bel.frame _, fun h => by cases h⟩
theorem over : Rows.fnQuotesWordsRow.holds Tryz.pinned (OpenSpec.ofChange Rows.fnQuotesWordsSpec) :=
  OpenClaim.holds_of_wide 7 Tryz.f7 rfl rfl rfl rfl rfl rfl rfl ⟨rfl, rfl, rfl, rfl, rfl⟩ rfl rfl rfl rfl rfl (by kernel_rfl) Tryz.func7 (by kernel_rfl)
    (of_decide_eq_true (by kernel_rfl)) (by unfold Func.isWrapper; first | (rw [if_pos (by decide +kernel)]; kernel_rfl) | (rw [if_neg (by decide +kernel)]; exact ⟨rfl, rfl⟩))
    (fun os started H enc _ => lifted os started H enc)
theorem card_proved : Rows.FnQuotesWordsCardSaid :=
  Claim7.holds_tied_plain_at .later [] [.data, .data, .widerDeep, .widerDeep, .data, .data, .data, .data, .data, .data, .sentinel, .sentinel, .pinned, .pinned, .pinned] true (true, "f0ab18dab450b15583f28834eb8e9cf81bd7c9701bba7b54502914fb8b0cde7f") true over (fun _ h => by cases h) (by kernel_rfl) (fun _ h => by cases h) fnQuotesWords_row_tie rfl ⟨rfl, rfl⟩ (by kernel_rfl) rfl
    (fun f fn hf hfn => by
      obtain rfl : f = 7 := Option.some.inj ((show Tryz.prog.funcNamed "given.example/pub-palinode/laws.FnQuotesWords" = some 7 by kernel_rfl).symm.trans hf) |>.symm
      obtain rfl : fn = Tryz.f7 := (Option.some.inj (Tryz.func7.symm.trans hfn)).symm
      exact ⟨by kernel_rfl, fun j t ht => by
        rw [Tryz.params7] at ht
        have hm : t ∈ [9] := by simpa using Array.mem_of_getElem? ht
        have hall : ([9].all fun u => !Tryz.prog.wantsStandIn u) = true := by kernel_rfl
        exact (show Tryz.prog.wantsStandIn t = false by simpa using List.all_eq_true.1 hall t hm)⟩)
    (by kernel_rfl)
#print axioms card_proved
end Go.Proofs.YtlkbhmmelejmjaaGreatDoor.fnQuotesWords
namespace Go.Proofs.YtlkbhmmelejmjaaGreatDoor
/-- The card, under a short name, for the claim. -/
theorem fnQuotesWords_holds : Rows.FnQuotesWordsCardSaid := fnQuotesWords.card_proved
end Go.Proofs.YtlkbhmmelejmjaaGreatDoor


