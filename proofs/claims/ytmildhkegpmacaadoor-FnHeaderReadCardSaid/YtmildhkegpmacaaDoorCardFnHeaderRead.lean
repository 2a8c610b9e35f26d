/- The tied card of FnHeaderRead: for every input that can be read the law returns true, and its arguments stay as they were; the tables of package unicode/utf8 are those of the program's text. The walk is ParseLaw.law. -/
import Derived.Test.YtmildhkegpmacaaDoorCards
import Derived.Test.YtmildhkegpmacaaDoorTie
import Derived.Test.YtmildhkegpmacaaDoorParseLaw
import Derived.WalkKit
import Derived.ProofKit
import Derived.OpenShut
import Derived.ShutString
import Derived.ChangeOld
import Derived.Below
import Derived.SizedLaws
import Derived.PinnedBridge
import Derived.Lay
import Derived.LaidOnce
import Derived.SevenTiedAt
import Derived.Lib.LaidIn
import Derived.Lib.LaidU8T
import Derived.Stop.LaidErr
namespace Go.Proofs.YtmildhkegpmacaaDoor.fnHeaderRead
open Go.ChangeShapes Go.WideShapes Go.ChangeAt Go.RowKit Go.Lib Go.Shelf
open Go.ChangeMaps (open_string shut_string)
set_option linter.unusedVariables false
theorem own : ownKnob Tryd.prog.godebug = none := by kernel_rfl
theorem tabs {W : World} (hL : laidMetH Tryd.prog Rows.fnHeaderReadRow.laid W) : Runes.Tabs W := by
  rw [MakeChecks.laidMetH_plain _ _ _ (by kernel_rfl)] at hL
  have h4 : VarReads Tryd.prog W "unicode/utf8.acceptRanges" Lib.acceptData := (show Rows.laid_unicode_utf8_acceptRanges = Lib.acceptData by kernel_rfl) ▸ Lib.laidMet.reads hL (.tail _ (.tail _ (.tail _ (.head _))))
  have h3 : VarReads Tryd.prog W "unicode/utf8.first" Lib.firstData := Pinned.utf8First_eq ▸ Lib.laidMet.reads hL (.tail _ (.tail _ (.tail _ (.tail _ (.tail _ (.tail _ (.head _)))))))
  exact utf8Tabs_of_readsT (U8Types.of196 Tryd.laysValid) ⟨by kernel_rfl, by kernel_rfl, by kernel_rfl, by kernel_rfl, by kernel_rfl, by kernel_rfl, by kernel_rfl⟩ h3 h4
theorem gES : Tryd.prog.globalNamed "strconv.ErrSyntax" = some 6 := by kernel_rfl
theorem gESType : (Tryd.prog.globals[6]?).map (·.type) = some 75 := by kernel_rfl
theorem cells182 : Tryd.prog.cellsOf 182 = 1 := by kernel_rfl
theorem cells9 : Tryd.prog.cellsOf 9 = 1 := by kernel_rfl
theorem star : "*" ++ "errors.errorString" = "*errors.errorString" := by decide
theorem row180 (u : TypeId) (h : Tryd.prog.typeName? 3 u = some "*errors.errorString") : u = 180 :=
  typeName_ptr_named (nm := "errors.errorString") (by rw [star]; kernel_rfl) (by kernel_rfl) (by decide) u (by rw [star]; exact h)
theorem errs {W : World} (hL : laidMetH Tryd.prog Rows.fnHeaderReadRow.laid W) : ParseLaw.ErrCell W := by
  rw [MakeChecks.laidMetH_plain _ _ _ (by kernel_rfl)] at hL
  obtain ⟨a0, s0, hv0, -, -, -⟩ := laid_sentinel (laidMet.tail (laidMet.tail (laidMet.tail (laidMet.tail (laidMet.tail hL))))) gES gESType Tryd.underlying75 row180 Tryd.underlying180 Tryd.underlying182 rfl rfl Tryd.underlying9 cells182 cells9
  exact ⟨_, (by have h0 := World.var?_cell gES hv0 0; simpa using h0), .inr ⟨_, _, rfl⟩⟩
set_option maxRecDepth 100000 in
theorem lifted (os : Os) (started : os.Started) (H : Type) (enc : TypeId × Value → H) :
    ReturnsInHanded {} Tryd.checked os 6 .any (fun w args => (Rows.fnHeaderReadSpec.pre enc Tryd.prog Tryd.f6 [] false w args ∧ laidMetH Tryd.prog Rows.fnHeaderReadRow.laid w) ∧ sizedMet enc Tryd.prog Tryd.f6 (OpenSpec.ofChange Rows.fnHeaderReadSpec) false w args)
      (Rows.fnHeaderReadSpec.post enc Tryd.prog Tryd.f6 false true false false) := by
  refine returnsInHanded_of_change_and (C := Tryd.checked) (X := fun w _ => laidMetH Tryd.prog Rows.fnHeaderReadRow.laid w) (fun _ _ _ hh h => h.of_heap hh) own started (by kernel_rfl) Tryd.func6
    (ChangeSpec.witness_shaped (enc := enc) (C := Tryd.checked) (os := os) (X := fun w _ => laidMetH Tryd.prog Rows.fnHeaderReadRow.laid w) false (World.laidAll Tryd.prog os Rows.fnHeaderReadRow.laid) #[.string ⟨#[]⟩] 8 (World.laidAll_os _ _ _)
      (World.shaped_of_ZipB (by kernel_rfl) (by kernel_rfl)) (by kernel_rfl) (by kernel_rfl) (by kernel_rfl)
      (by rw [MakeChecks.laidMetH_plain _ _ _ (by kernel_rfl)]; exact laidMet_laidAll _ (by kernel_rfl) (by kernel_rfl))) ?_
  intro W base args ds gs before hval0 hW hcnd hsz0 hL _
  have hsz : (DataW.weightsEach Tryd.prog (Tryd.f6.params.toList ++ Rows.fnHeaderReadSpec.plain.varTypes Tryd.prog) (ds ++ gs)).all (· ≤ reachBytes) = true := hsz0
  have hval : ∀ (j : Nat) t v, Tryd.f6.params[j]? = some t → args[j]? = some v → Value.okWide Tryd.prog W .any base t v := hval0
  have hW' := hW
  obtain ⟨p, q, hA0, hV, rfl, _, _⟩ := hW
  have hA : DataW.TrodAll enc Tryd.prog W 0 (fun _ => true) true Tryd.f6.params.toList args.toList ds p := hA0
  rw [Tryd.params6] at hA hval hsz
  obtain ⟨v0, vs0, d0, ds0, p0, q0, hargs, rfl, rfl, h0, r0⟩ := trodAll_cons hA
  obtain ⟨rfl, rfl, rfl⟩ := trodAll_nil r0
  obtain rfl : args = #[v0] := by cases args; simp_all
  obtain ⟨rfl, rfl⟩ := trodVars_none hV
  obtain ⟨a0, rfl, rfl, rfl, y0⟩ := open_string Tryd.underlying9 (hval 0 9 v0 rfl rfl) h0
  have w0 : a0.size ≤ 140737488351232 := by
    have z := sized_string hsz (j := 0) (t := 9) rfl rfl
    rw [Array.length_toList] at z
    exact z
  have hT := tabs hL
  have hX := errs hL
  clear hA0 hval0 hsz0 hsz hL
  refine (ParseLaw.law a0 W w0 hT hX).mono fun e W' ⟨he, bel⟩ => ?_
  subst he
  exact ⟨_, rfl, _, _, _, [], _, [], hW', trodAll_mk1 (shut_bool Tryd.underlying4 _), (trodAll_cons_mk (shut_string Tryd.underlying9 y0) trodAll_mk0), rfl, bel.frame _, fun h => by cases h⟩
theorem over : Rows.fnHeaderReadRow.holds Tryd.pinned (OpenSpec.ofChange Rows.fnHeaderReadSpec) :=
  OpenClaim.holds_of_wide 6 Tryd.f6 rfl rfl rfl rfl rfl rfl rfl ⟨rfl, rfl, rfl, rfl, rfl⟩ rfl rfl rfl rfl rfl (by kernel_rfl) Tryd.func6 (by kernel_rfl)
    (of_decide_eq_true (by kernel_rfl)) (by unfold Func.isWrapper; first | (rw [if_pos (by decide +kernel)]; kernel_rfl) | (rw [if_neg (by decide +kernel)]; exact ⟨rfl, rfl⟩))
    (fun os started H enc _ => lifted os started H enc)
theorem card_proved : Rows.FnHeaderReadCardSaid :=
  Claim7.holds_tied_plain_at .later [] [.data, .data, .data, .data, .sentinel, .sentinel, .pinned] true (true, "0064fcce2abf2ddbc1ef1e89774fac2c4c3057361595511f240b1c62a0006bec") true over (fun _ h => by cases h) (by kernel_rfl) (fun _ h => by cases h) fnHeaderRead_row_tie rfl ⟨rfl, rfl⟩ (by kernel_rfl) rfl
    (fun f fn hf hfn => by
      obtain rfl : f = 6 := Option.some.inj ((show Tryd.prog.funcNamed "given.example/pub-palinode/laws.FnHeaderRead" = some 6 by kernel_rfl).symm.trans hf) |>.symm
      obtain rfl : fn = Tryd.f6 := (Option.some.inj (Tryd.func6.symm.trans hfn)).symm
      exact ⟨by kernel_rfl, fun j t ht => by
        rw [Tryd.params6] at ht
        have hm : t ∈ [9] := by simpa using Array.mem_of_getElem? ht
        have hall : ([9].all fun u => !Tryd.prog.wantsStandIn u) = true := by kernel_rfl
        exact (show Tryd.prog.wantsStandIn t = false by simpa using List.all_eq_true.1 hall t hm)⟩)
    (by kernel_rfl)
#print axioms card_proved
end Go.Proofs.YtmildhkegpmacaaDoor.fnHeaderRead
namespace Go.Proofs.YtmildhkegpmacaaDoor
/-- The card, under a short name, for the claim. -/
theorem fnHeaderRead_holds : Rows.FnHeaderReadCardSaid := fnHeaderRead.card_proved
end Go.Proofs.YtmildhkegpmacaaDoor
