/- The tied card of FnTokenAdded: for every input that can be read the law returns true, and its arguments stay as they were; the listed variables of the library are those of the program's text. The walk is AddLaw.law_any. -/
import Derived.Test.YtlkbhmmelejmjaaGreatDoorCards
import Derived.Test.YtlkbhmmelejmjaaGreatDoorTie
import Derived.Test.YtlkbhmmelejmjaaGreatDoorAddLaw
import Derived.WalkKit
import Derived.ProofKit
import Derived.OpenShut
import Derived.ShutString
import Derived.ChangeOld
import Derived.Below
import Derived.SizedLaws
import Derived.PinnedBridge
import Derived.Lay
import Derived.LaidOnce
import Derived.SevenTiedAt
import Derived.Lib.LaidIn
import Derived.Carry
import Derived.Deep.Strs
namespace Go.Proofs.YtlkbhmmelejmjaaGreatDoor.fnTokenAdded
open Go.ChangeShapes Go.WideShapes Go.ChangeAt Go.RowKit Go.Lib Go.Shelf
open Go.ChangeMaps (open_string shut_string)
set_option linter.unusedVariables false
theorem laidOut : laidOutB Tryz.prog = true := by kernel_rfl
theorem own : ownKnob Tryz.prog.godebug = none := by kernel_rfl
set_option maxRecDepth 100000 in
theorem lifted (os : Os) (started : os.Started) (H : Type) (enc : TypeId × Value → H) :
    ReturnsInHanded {} Tryz.checked os 4 .any (fun w args => (Rows.fnTokenAddedSpec.pre enc Tryz.prog Tryz.f4 [] false w args ∧ laidMetH Tryz.prog Rows.fnTokenAddedRow.laid w) ∧ sizedMet enc Tryz.prog Tryz.f4 (OpenSpec.ofChange Rows.fnTokenAddedSpec) false w args)
      (Rows.fnTokenAddedSpec.post enc Tryz.prog Tryz.f4 false true false false) := by
  refine returnsInHanded_of_change_and (C := Tryz.checked) (X := fun w _ => laidMetH Tryz.prog Rows.fnTokenAddedRow.laid w) (fun _ _ _ hh h => h.of_heap hh) own started (by kernel_rfl) Tryz.func4
    (ChangeSpec.witness_shaped (enc := enc) (C := Tryz.checked) (os := os) (X := fun w _ => laidMetH Tryz.prog Rows.fnTokenAddedRow.laid w) false (World.laidAll Tryz.prog os Rows.fnTokenAddedRow.laid) #[.slice none 0 0] 8 (World.laidAll_os _ _ _)
      (World.shaped_of_ZipB (by kernel_rfl) (by kernel_rfl)) (by kernel_rfl) (by kernel_rfl) (by kernel_rfl)
      (by rw [MakeChecks.laidMetH_plain _ _ _ (by kernel_rfl)]; exact laidMet_laidAll _ (by kernel_rfl) (by kernel_rfl))) ?_
  intro W base args ds gs before hval0 hW hcnd hsz0 hL _
  have hsz : (DataW.weightsEach Tryz.prog (Tryz.f4.params.toList ++ Rows.fnTokenAddedSpec.plain.varTypes Tryz.prog) (ds ++ gs)).all (· ≤ reachBytes) = true := hsz0
  have hval : ∀ (j : Nat) t v, Tryz.f4.params[j]? = some t → args[j]? = some v → Value.okWide Tryz.prog W .any base t v := hval0
  have hW' := hW
  obtain ⟨p, q, hA0, hV, rfl, _, _⟩ := hW
  have hA : DataW.TrodAll enc Tryz.prog W 0 (fun _ => true) true Tryz.f4.params.toList args.toList ds p := hA0
  rw [Tryz.params4] at hA hval hsz
  obtain ⟨v0, vs0, d0, ds0, p0, q0, hargs, rfl, rfl, h0, r0⟩ := trodAll_cons hA
  obtain ⟨rfl, rfl, rfl⟩ := trodAll_nil r0
  obtain rfl : args = #[v0] := by cases args; simp_all
  obtain ⟨rfl, rfl⟩ := trodVars_none hV
  obtain ⟨A0, n0, c0, rfl⟩ := okWide_slice Tryz.underlying30 (hval 0 30 v0 rfl rfl)
  have k0 := h0
  have lt0 : ∀ x ∈ p0, x.block < W.heap.size := by obtain ⟨m, hm⟩ := k0; exact DataW.trod_lt m _ _ _ hm
  obtain ⟨vs, hn0, hrd⟩ : ∃ vs, n0 ≤ 140737488355328 ∧ AddBase.Reads W A0 n0 vs := by
    obtain ⟨fuel, hf⟩ := h0
    rcases Go.Deep.open_strs Tryz.underlying30 Tryz.underlying9 (by kernel_rfl) hf with ⟨he, _⟩ | ⟨a, len, cap, m, Sx, he, _, hl, hm, hmm, hd, hx⟩
    · simp [Value.cells] at he
      obtain ⟨rfl, rfl, rfl⟩ := he
      exact ⟨fun _ => ⟨#[]⟩, by omega, fun i hi => absurd hi (Nat.not_lt_zero _)⟩
    · simp [Value.cells] at he
      obtain ⟨rfl, rfl, rfl⟩ := he
      have hd0 := (Prod.mk.injEq _ _ _ _).mp hd |>.1
      have hlm : n0 ≤ m := by rw [hmm]; split <;> omega
      have z := sized_slice hsz (j := 0) (t := 30) rfl (by rw [hd0]; rfl) Tryz.underlying30
      rw [List.length_map, List.length_range] at z
      have hb : Tryz.prog.bytesOf 9 = 16 := by kernel_rfl
      rw [hb] at z
      have hr := reachBytes_lt
      exact ⟨Sx, by omega, fun i hi => ⟨a, rfl, (hx i (by omega)).1⟩⟩
  clear hA0 hval0 hsz0 hsz hL
  refine (AddLaw.law_any A0 n0 c0 vs W hn0 hrd).mono fun e W' ⟨he, bel⟩ => ?_
  subst he
  exact ⟨_, rfl, _, _, _, [], _, [], hW', trodAll_mk1 (shut_bool Tryz.underlying4 _), (trodAll_cons_mk (Below.trod laidOut (by kernel_rfl) (of_decide_eq_true (by kernel_rfl)) k0 bel lt0) trodAll_mk0), rfl, bel.frame _, fun h => by cases h⟩
theorem over : Rows.fnTokenAddedRow.holds Tryz.pinned (OpenSpec.ofChange Rows.fnTokenAddedSpec) :=
  OpenClaim.holds_of_wide 4 Tryz.f4 rfl rfl rfl rfl rfl rfl rfl ⟨rfl, rfl, rfl, rfl, rfl⟩ rfl rfl rfl rfl rfl (by kernel_rfl) Tryz.func4 (by kernel_rfl)
    (of_decide_eq_true (by kernel_rfl)) (by unfold Func.isWrapper; first | (rw [if_pos (by decide +kernel)]; kernel_rfl) | (rw [if_neg (by decide +kernel)]; exact ⟨rfl, rfl⟩))
    (fun os started H enc _ => lifted os started H enc)
theorem card_proved : Rows.FnTokenAddedCardSaid :=
  Claim7.holds_tied_plain_at .later [] [.data, .data, .widerDeep, .widerDeep, .data, .data, .data, .data, .data, .sentinel, .sentinel, .pinned, .pinned] true (true, "f0ab18dab450b15583f28834eb8e9cf81bd7c9701bba7b54502914fb8b0cde7f") true over (fun _ h => by cases h) (by kernel_rfl) (fun _ h => by cases h) fnTokenAdded_row_tie rfl ⟨rfl, rfl⟩ (by kernel_rfl) rfl
    (fun f fn hf hfn => by
      obtain rfl : f = 4 := Option.some.inj ((show Tryz.prog.funcNamed "given.example/pub-palinode/laws.FnTokenAdded" = some 4 by kernel_rfl).symm.trans hf) |>.symm
      obtain rfl : fn = Tryz.f4 := (Option.some.inj (Tryz.func4.symm.trans hfn)).symm
      exact ⟨by kernel_rfl, fun j t ht => by
        rw [Tryz.params4] at ht
        have hm : t ∈ [30] := by simpa using Array.mem_of_getElem? ht
        have hall : ([30].all fun u => !Tryz.prog.wantsStandIn u) = true := by kernel_rfl
        exact (show Tryz.prog.wantsStandIn t = false by simpa using List.all_eq_true.1 hall t hm)⟩)
    (by kernel_rfl)
#print axioms card_proved
end Go.Proofs.YtlkbhmmelejmjaaGreatDoor.fnTokenAdded
namespace Go.Proofs.YtlkbhmmelejmjaaGreatDoor
/-- The card, under a short name, for the claim. -/
theorem fnTokenAdded_holds : Rows.FnTokenAddedCardSaid := fnTokenAdded.card_proved
end Go.Proofs.YtlkbhmmelejmjaaGreatDoor

