/-
  DERIVED. GIVEN WITH THE SEED: THE CARDS: each row of YtlkbhmmelejmjaaDoorRows.lean that lists a variable, with what it lists TIED to the program's text (the seventh form; the later family's looks); each row that meets fmt, with fmt's text TOLD by the authors' own Lean function (tested against real Go, not proved from fmt's source: count such statements apart). THE CARD IS WHAT COUNTS. Prove the row's statement (the work); the ties are given (YtlkbhmmelejmjaaDoorTie.lean); close each card by the builder's one call (the guide's Derived/Test/ToyasCard.lean, 'card_holds'). Laid BY PROGRAM, IN A SANDBOX (cutbox-door.mjs). By AI agents, Wed Nov 11 2026. No macro, syntax, notation, axiom, sorry.
-/
import Derived.Test.YtlkbhmmelejmjaaDoorRows
import GoSem.ClaimSeven
namespace Go.Proofs.YtlkbhmmelejmjaaDoor
namespace Rows

/-- THE TIED CARD OF 'laws.FnNumberBased'. -/
def fnNumberBasedCard : Claim7 := { stood := { row := fnNumberBasedRow, standIns := [], harness := (true, "13fbbd2dd6053569000be83bcbe90989fc09e781a04025562f1bb72c60d258ea"), looks := true }, kinds := [], alts := [], laidByText := true, laidKinds := [.data, .data, .widerDeep, .widerDeep, .data, .data, .data, .data, .data, .sentinel, .sentinel, .pinned, .pinned], laidTests := true, laidLooks := .later }
def FnNumberBasedCardSaid : Prop := Claim7.holds Tryd.pinned (.plain (OpenSpec.ofChange fnNumberBasedSpec)) fnNumberBasedCard

/-- THE TIED CARD OF 'laws.FnNumberInteger'. -/
def fnNumberIntegerCard : Claim7 := { stood := { row := fnNumberIntegerRow, standIns := [], harness := (true, "13fbbd2dd6053569000be83bcbe90989fc09e781a04025562f1bb72c60d258ea"), looks := true }, kinds := [], alts := [], laidByText := true, laidKinds := [.data, .data, .widerDeep, .widerDeep, .data, .data, .data, .data, .data, .sentinel, .sentinel, .pinned, .pinned], laidTests := true, laidLooks := .later }
def FnNumberIntegerCardSaid : Prop := Claim7.holds Tryd.pinned (.plain (OpenSpec.ofChange fnNumberIntegerSpec)) fnNumberIntegerCard

/-- THE TIED CARD OF 'laws.FnNumberRead'. -/
def fnNumberReadCard : Claim7 := { stood := { row := fnNumberReadRow, standIns := [], harness := (true, "13fbbd2dd6053569000be83bcbe90989fc09e781a04025562f1bb72c60d258ea"), looks := true }, kinds := [], alts := [], laidByText := true, laidKinds := [.data, .data, .widerDeep, .widerDeep, .data, .data, .data, .data, .data, .sentinel, .sentinel, .pinned, .pinned], laidTests := true, laidLooks := .later }
def FnNumberReadCardSaid : Prop := Claim7.holds Tryd.pinned (.plain (OpenSpec.ofChange fnNumberReadSpec)) fnNumberReadCard

/-- THE TIED CARD OF 'laws.FnHeaderNone'. -/
def fnHeaderNoneCard : Claim7 := { stood := { row := fnHeaderNoneRow, standIns := [], harness := (true, "13fbbd2dd6053569000be83bcbe90989fc09e781a04025562f1bb72c60d258ea"), looks := true }, kinds := [], alts := [], laidByText := true, laidKinds := [.data, .data, .widerDeep, .widerDeep, .data, .data, .data, .data, .data, .sentinel, .sentinel, .pinned, .pinned], laidTests := true, laidLooks := .later }
def FnHeaderNoneCardSaid : Prop := Claim7.holds Tryd.pinned (.plain (OpenSpec.ofChange fnHeaderNoneSpec)) fnHeaderNoneCard

/-- THE SECOND FORM's CARD OF 'laws.FnNumberBased'. -/
def fnNumberBasedUptoCard : Claim7 := { stood := { row := fnNumberBasedUptoRow, standIns := [], harness := (true, "13fbbd2dd6053569000be83bcbe90989fc09e781a04025562f1bb72c60d258ea"), looks := true }, kinds := [], alts := [], laidByText := true, laidKinds := [.data, .data, .widerDeep, .widerDeep, .data, .data, .data, .data, .data, .sentinel, .sentinel, .pinned, .pinned], laidTests := true, laidLooks := .later }
def FnNumberBasedUptoCardSaid : Prop := Claim7.holds Tryd.pinned (.plain (OpenSpec.upto fnNumberBasedSpec)) fnNumberBasedUptoCard

/-- THE SECOND FORM's CARD OF 'laws.FnNumberInteger'. -/
def fnNumberIntegerUptoCard : Claim7 := { stood := { row := fnNumberIntegerUptoRow, standIns := [], harness := (true, "13fbbd2dd6053569000be83bcbe90989fc09e781a04025562f1bb72c60d258ea"), looks := true }, kinds := [], alts := [], laidByText := true, laidKinds := [.data, .data, .widerDeep, .widerDeep, .data, .data, .data, .data, .data, .sentinel, .sentinel, .pinned, .pinned], laidTests := true, laidLooks := .later }
def FnNumberIntegerUptoCardSaid : Prop := Claim7.holds Tryd.pinned (.plain (OpenSpec.upto fnNumberIntegerSpec)) fnNumberIntegerUptoCard

/-- THE SECOND FORM's CARD OF 'laws.FnNumberRead'. -/
def fnNumberReadUptoCard : Claim7 := { stood := { row := fnNumberReadUptoRow, standIns := [], harness := (true, "13fbbd2dd6053569000be83bcbe90989fc09e781a04025562f1bb72c60d258ea"), looks := true }, kinds := [], alts := [], laidByText := true, laidKinds := [.data, .data, .widerDeep, .widerDeep, .data, .data, .data, .data, .data, .sentinel, .sentinel, .pinned, .pinned], laidTests := true, laidLooks := .later }
def FnNumberReadUptoCardSaid : Prop := Claim7.holds Tryd.pinned (.plain (OpenSpec.upto fnNumberReadSpec)) fnNumberReadUptoCard

/-- THE SECOND FORM's CARD OF 'laws.FnHeaderNone'. -/
def fnHeaderNoneUptoCard : Claim7 := { stood := { row := fnHeaderNoneUptoRow, standIns := [], harness := (true, "13fbbd2dd6053569000be83bcbe90989fc09e781a04025562f1bb72c60d258ea"), looks := true }, kinds := [], alts := [], laidByText := true, laidKinds := [.data, .data, .widerDeep, .widerDeep, .data, .data, .data, .data, .data, .sentinel, .sentinel, .pinned, .pinned], laidTests := true, laidLooks := .later }
def FnHeaderNoneUptoCardSaid : Prop := Claim7.holds Tryd.pinned (.plain (OpenSpec.upto fnHeaderNoneSpec)) fnHeaderNoneUptoCard
end Rows
end Go.Proofs.YtlkbhmmelejmjaaDoor
