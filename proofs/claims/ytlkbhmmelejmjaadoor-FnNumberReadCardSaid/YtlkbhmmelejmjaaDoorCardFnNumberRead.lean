/- The tied card of FnNumberRead: for every input that can be read the law returns true, and its arguments stay as they were; the listed variables of the library are those of the program's text. The walk is RdLaw.law_any. -/
import Derived.Test.YtlkbhmmelejmjaaDoorCards
import Derived.Test.YtlkbhmmelejmjaaDoorTie
import Derived.Test.YtlkbhmmelejmjaaDoorPkFnNumberRead10
import Derived.WalkKit
import Derived.ProofKit
import Derived.OpenShut
import Derived.ShutString
import Derived.ChangeOld
import Derived.Below
import Derived.SizedLaws
import Derived.PinnedBridge
import Derived.Lay
import Derived.LaidOnce
import Derived.SevenTiedAt
import Derived.Lib.LaidIn
import Derived.Test.YtlkbhmmelejmjaaDoorPkFnNumberRead11
import Derived.Stop.LaidErr
namespace Go.Proofs.YtlkbhmmelejmjaaDoor.fnNumberRead
open Go.ChangeShapes Go.WideShapes Go.ChangeAt Go.RowKit Go.Lib Go.Shelf
open Go.ChangeMaps (open_string shut_string)
set_option linter.unusedVariables false
theorem own : ownKnob Tryd.prog.godebug = none := by kernel_rfl
theorem tabs {W : World} (hL : laidMetH Tryd.prog Rows.fnNumberReadRow.laid W) : FltAtof.Tabs W.heap.size FltLaid.HF FltLaid.OF FltLaid.XF W ∧ ∃ EV, NumErr.Errs W.heap.size EV W := by
  rw [MakeChecks.laidMetH_plain _ _ _ (by kernel_rfl)] at hL
  have r1 : VarReads Tryd.prog W "internal/strconv.leftcheats" Pinned.leftcheats := Lib.laidMet.reads hL (.tail _ (.tail _ (.tail _ (.tail _ (.tail _ (.tail _ (.tail _ (.tail _ (.tail _ (.tail _ (.tail _ (.head _))))))))))))
  have r2 : VarReads Tryd.prog W "internal/strconv.powtab" FltLaid.powD := (show Rows.laid_internal_strconv_powtab = FltLaid.powD by kernel_rfl) ▸ Lib.laidMet.reads hL (.tail _ (.tail _ (.tail _ (.tail _ (.tail _ (.head _))))))
  have r3 : VarReads Tryd.prog W "internal/strconv.float64info" (FltLaid.infoD 52 11 (-1023)) := (show Rows.laid_internal_strconv_float64info = FltLaid.infoD 52 11 (-1023) by kernel_rfl) ▸ Lib.laidMet.reads hL (.tail _ (.tail _ (.tail _ (.head _))))
  have r4 : VarReads Tryd.prog W "internal/strconv.pow10Tab" Pinned.pow10Tab := Lib.laidMet.reads hL (.tail _ (.tail _ (.tail _ (.tail _ (.tail _ (.tail _ (.tail _ (.tail _ (.tail _ (.tail _ (.tail _ (.tail _ (.head _)))))))))))))
  have r5 : VarReads Tryd.prog W "internal/strconv.float64pow10" FltLaid.tenD := (show Rows.laid_internal_strconv_float64pow10 = FltLaid.tenD by kernel_rfl) ▸ Lib.laidMet.reads hL (.tail _ (.tail _ (.tail _ (.tail _ (.tail _ (.tail _ (.head _)))))))
  have r6 : VarReads Tryd.prog W "internal/strconv.optimize" (.lit (.bool true)) := (show Rows.laid_internal_strconv_optimize = .lit (.bool true) by kernel_rfl) ▸ Lib.laidMet.reads hL (.tail _ (.tail _ (.tail _ (.tail _ (.head _)))))
  exact ⟨⟨FltLaid.lt_of r1, FltLaid.pt_of r2, FltLaid.fi_of r3, FltLaid.tt_of r4, FltLaid.xt_of r5, FltLaid.pos_at, FltLaid.pq_of hL (.tail _ (.tail _ (.tail _ (.head _)))) (.tail _ (.tail _ (.head _))), FltLaid.op_of r6⟩, FltLaid.errs_laid (laidMet.tail (laidMet.tail (laidMet.tail (laidMet.tail (laidMet.tail (laidMet.tail (laidMet.tail (laidMet.tail (laidMet.tail hL)))))))))⟩
set_option maxRecDepth 100000 in
theorem lifted (os : Os) (started : os.Started) (H : Type) (enc : TypeId × Value → H) :
    ReturnsInHanded {} Tryd.checked os 5 .any (fun w args => (Rows.fnNumberReadSpec.pre enc Tryd.prog Tryd.f5 [] false w args ∧ laidMetH Tryd.prog Rows.fnNumberReadRow.laid w) ∧ sizedMet enc Tryd.prog Tryd.f5 (OpenSpec.ofChange Rows.fnNumberReadSpec) false w args)
      (Rows.fnNumberReadSpec.post enc Tryd.prog Tryd.f5 false true false false) := by
  refine returnsInHanded_of_change_and (C := Tryd.checked) (X := fun w _ => laidMetH Tryd.prog Rows.fnNumberReadRow.laid w) (fun _ _ _ hh h => h.of_heap hh) own started (by kernel_rfl) Tryd.func5
    (ChangeSpec.witness_shaped (enc := enc) (C := Tryd.checked) (os := os) (X := fun w _ => laidMetH Tryd.prog Rows.fnNumberReadRow.laid w) false (World.laidAll Tryd.prog os Rows.fnNumberReadRow.laid) #[.string ⟨#[]⟩] 8 (World.laidAll_os _ _ _)
      (World.shaped_of_ZipB (by kernel_rfl) (by kernel_rfl)) (by kernel_rfl) (by kernel_rfl) (by kernel_rfl)
      (by rw [MakeChecks.laidMetH_plain _ _ _ (by kernel_rfl)]; exact laidMet_laidAll _ (by kernel_rfl) (by kernel_rfl))) ?_
  intro W base args ds gs before hval0 hW hcnd hsz0 hL _
  have hsz : (DataW.weightsEach Tryd.prog (Tryd.f5.params.toList ++ Rows.fnNumberReadSpec.plain.varTypes Tryd.prog) (ds ++ gs)).all (· ≤ reachBytes) = true := hsz0
  have hval : ∀ (j : Nat) t v, Tryd.f5.params[j]? = some t → args[j]? = some v → Value.okWide Tryd.prog W .any base t v := hval0
  have hW' := hW
  obtain ⟨p, q, hA0, hV, rfl, _, _⟩ := hW
  have hA : DataW.TrodAll enc Tryd.prog W 0 (fun _ => true) true Tryd.f5.params.toList args.toList ds p := hA0
  rw [Tryd.params5] at hA hval hsz
  obtain ⟨v0, vs0, d0, ds0, p0, q0, hargs, rfl, rfl, h0, r0⟩ := trodAll_cons hA
  obtain ⟨rfl, rfl, rfl⟩ := trodAll_nil r0
  obtain rfl : args = #[v0] := by cases args; simp_all
  obtain ⟨rfl, rfl⟩ := trodVars_none hV
  obtain ⟨a0, rfl, rfl, rfl, y0⟩ := open_string Tryd.underlying9 (hval 0 9 v0 rfl rfl) h0
  have w0 : a0.size ≤ 140737488351232 := by
    have z := sized_string hsz (j := 0) (t := 9) rfl rfl
    rw [Array.length_toList] at z
    exact z
  obtain ⟨hT, EV, hE⟩ := tabs hL
  clear hA0 hval0 hsz0 hsz hL
  refine (RdLaw.law_any W.heap.size FltLaid.HF FltLaid.OF FltLaid.XF EV a0 W (Nat.le_refl _) hT hE w0).mono fun e W' ⟨he, bel⟩ => ?_
  subst he
  exact ⟨_, rfl, _, _, _, [], _, [], hW', trodAll_mk1 (shut_bool Tryd.underlying4 _), (trodAll_cons_mk (shut_string Tryd.underlying9 y0) trodAll_mk0), rfl, bel.frame _, fun h => by cases h⟩
theorem over : Rows.fnNumberReadRow.holds Tryd.pinned (OpenSpec.ofChange Rows.fnNumberReadSpec) :=
  OpenClaim.holds_of_wide 5 Tryd.f5 rfl rfl rfl rfl rfl rfl rfl ⟨rfl, rfl, rfl, rfl, rfl⟩ rfl rfl rfl rfl rfl (by kernel_rfl) Tryd.func5 (by kernel_rfl)
    (of_decide_eq_true (by kernel_rfl)) (by unfold Func.isWrapper; first | (rw [if_pos (by decide +kernel)]; kernel_rfl) | (rw [if_neg (by decide +kernel)]; exact ⟨rfl, rfl⟩))
    (fun os started H enc _ => lifted os started H enc)
theorem card_proved : Rows.FnNumberReadCardSaid :=
  Claim7.holds_tied_plain_at .later [] [.data, .data, .widerDeep, .widerDeep, .data, .data, .data, .data, .data, .sentinel, .sentinel, .pinned, .pinned] true (true, "13fbbd2dd6053569000be83bcbe90989fc09e781a04025562f1bb72c60d258ea") true over (fun _ h => by cases h) (by kernel_rfl) (fun _ h => by cases h) fnNumberRead_row_tie rfl ⟨rfl, rfl⟩ (by kernel_rfl) rfl
    (fun f fn hf hfn => by
      obtain rfl : f = 5 := Option.some.inj ((show Tryd.prog.funcNamed "given.example/pub-palinode/laws.FnNumberRead" = some 5 by kernel_rfl).symm.trans hf) |>.symm
      obtain rfl : fn = Tryd.f5 := (Option.some.inj (Tryd.func5.symm.trans hfn)).symm
      exact ⟨by kernel_rfl, fun j t ht => by
        rw [Tryd.params5] at ht
        have hm : t ∈ [9] := by simpa using Array.mem_of_getElem? ht
        have hall : ([9].all fun u => !Tryd.prog.wantsStandIn u) = true := by kernel_rfl
        exact (show Tryd.prog.wantsStandIn t = false by simpa using List.all_eq_true.1 hall t hm)⟩)
    (by kernel_rfl)
#print axioms card_proved
end Go.Proofs.YtlkbhmmelejmjaaDoor.fnNumberRead
namespace Go.Proofs.YtlkbhmmelejmjaaDoor
/-- The card, under a short name, for the claim. -/
theorem fnNumberRead_holds : Rows.FnNumberReadCardSaid := fnNumberRead.card_proved
end Go.Proofs.YtlkbhmmelejmjaaDoor


