/-
  DERIVED. GIVEN WITH THE SEED: THE CARDS: each row of YtmildhkegpmacaaDoorRows.lean that lists a variable, with what it lists TIED to the program's text (the seventh form; the later family's looks); each row that meets fmt, with fmt's text TOLD by the authors' own Lean function (tested against real Go, not proved from fmt's source: count such statements apart). THE CARD IS WHAT COUNTS. Prove the row's statement (the work); the ties are given (YtmildhkegpmacaaDoorTie.lean); close each card by the builder's one call (the guide's Derived/Test/ToyasCard.lean, 'card_holds'). Laid BY PROGRAM, IN A SANDBOX (cutbox-door.mjs). By AI agents, Wed Nov 11 2026. No macro, syntax, notation, axiom, sorry.
-/
import Derived.Test.YtmildhkegpmacaaDoorRows
import GoSem.ClaimSeven
namespace Go.Proofs.YtmildhkegpmacaaDoor
namespace Rows

/-- THE TIED CARD OF 'laws.FnHeaderWritten'. -/
def fnHeaderWrittenCard : Claim7 := { stood := { row := fnHeaderWrittenRow, standIns := [], harness := (true, "0064fcce2abf2ddbc1ef1e89774fac2c4c3057361595511f240b1c62a0006bec"), looks := true }, kinds := [], alts := [], laidByText := true, laidKinds := [.data, .pinned], laidTests := true, laidLooks := .later }
def FnHeaderWrittenCardSaid : Prop := Claim7.holds Tryd.pinned (.plain (OpenSpec.ofChange fnHeaderWrittenSpec)) fnHeaderWrittenCard

/-- THE TIED CARD OF 'laws.FnPartQuotes'. -/
def fnPartQuotesCard : Claim7 := { stood := { row := fnPartQuotesRow, standIns := [], harness := (true, "0064fcce2abf2ddbc1ef1e89774fac2c4c3057361595511f240b1c62a0006bec"), looks := true }, kinds := [], alts := [], laidByText := true, laidKinds := [.data, .pinned], laidTests := true, laidLooks := .later }
def FnPartQuotesCardSaid : Prop := Claim7.holds Tryd.pinned (.plain (OpenSpec.ofChange fnPartQuotesSpec)) fnPartQuotesCard

/-- THE TIED CARD OF 'laws.FnPartChomped'. -/
def fnPartChompedCard : Claim7 := { stood := { row := fnPartChompedRow, standIns := [], harness := (true, "0064fcce2abf2ddbc1ef1e89774fac2c4c3057361595511f240b1c62a0006bec"), looks := true }, kinds := [], alts := [], laidByText := true, laidKinds := [.data, .pinned], laidTests := true, laidLooks := .later }
def FnPartChompedCardSaid : Prop := Claim7.holds Tryd.pinned (.plain (OpenSpec.ofChange fnPartChompedSpec)) fnPartChompedCard

/-- THE TIED CARD OF 'laws.FnHeaderRead'. -/
def fnHeaderReadCard : Claim7 := { stood := { row := fnHeaderReadRow, standIns := [], harness := (true, "0064fcce2abf2ddbc1ef1e89774fac2c4c3057361595511f240b1c62a0006bec"), looks := true }, kinds := [], alts := [], laidByText := true, laidKinds := [.data, .data, .data, .data, .sentinel, .sentinel, .pinned], laidTests := true, laidLooks := .later }
def FnHeaderReadCardSaid : Prop := Claim7.holds Tryd.pinned (.plain (OpenSpec.ofChange fnHeaderReadSpec)) fnHeaderReadCard

/-- THE TIED CARD OF 'laws.FnGroupNames'. -/
def fnGroupNamesCard : Claim7 := { stood := { row := fnGroupNamesRow, standIns := [], harness := (true, "0064fcce2abf2ddbc1ef1e89774fac2c4c3057361595511f240b1c62a0006bec"), looks := true }, kinds := [], alts := [], laidByText := true, laidKinds := [.sentinel, .sentinel, .sentinel], laidTests := true, laidLooks := .later }
def FnGroupNamesCardSaid : Prop := Claim7.holds Tryd.pinned (.plain (OpenSpec.ofChange fnGroupNamesSpec)) fnGroupNamesCard

/-- THE TIED CARD OF 'laws.FnPartLines'. -/
def fnPartLinesCard : Claim7 := { stood := { row := fnPartLinesRow, standIns := [], harness := (true, "0064fcce2abf2ddbc1ef1e89774fac2c4c3057361595511f240b1c62a0006bec"), looks := true }, kinds := [], alts := [], laidByText := true, laidKinds := [.data, .pinned], laidTests := true, laidLooks := .later }
def FnPartLinesCardSaid : Prop := Claim7.holds Tryd.pinned (.plain (OpenSpec.ofChange fnPartLinesSpec)) fnPartLinesCard

/-- THE SECOND FORM's CARD OF 'laws.FnHeaderWritten'. -/
def fnHeaderWrittenUptoCard : Claim7 := { stood := { row := fnHeaderWrittenUptoRow, standIns := [], harness := (true, "0064fcce2abf2ddbc1ef1e89774fac2c4c3057361595511f240b1c62a0006bec"), looks := true }, kinds := [], alts := [], laidByText := true, laidKinds := [.data, .pinned], laidTests := true, laidLooks := .later }
def FnHeaderWrittenUptoCardSaid : Prop := Claim7.holds Tryd.pinned (.plain (OpenSpec.upto fnHeaderWrittenSpec)) fnHeaderWrittenUptoCard

/-- THE SECOND FORM's CARD OF 'laws.FnPartQuotes'. -/
def fnPartQuotesUptoCard : Claim7 := { stood := { row := fnPartQuotesUptoRow, standIns := [], harness := (true, "0064fcce2abf2ddbc1ef1e89774fac2c4c3057361595511f240b1c62a0006bec"), looks := true }, kinds := [], alts := [], laidByText := true, laidKinds := [.data, .pinned], laidTests := true, laidLooks := .later }
def FnPartQuotesUptoCardSaid : Prop := Claim7.holds Tryd.pinned (.plain (OpenSpec.upto fnPartQuotesSpec)) fnPartQuotesUptoCard

/-- THE SECOND FORM's CARD OF 'laws.FnPartChomped'. -/
def fnPartChompedUptoCard : Claim7 := { stood := { row := fnPartChompedUptoRow, standIns := [], harness := (true, "0064fcce2abf2ddbc1ef1e89774fac2c4c3057361595511f240b1c62a0006bec"), looks := true }, kinds := [], alts := [], laidByText := true, laidKinds := [.data, .pinned], laidTests := true, laidLooks := .later }
def FnPartChompedUptoCardSaid : Prop := Claim7.holds Tryd.pinned (.plain (OpenSpec.upto fnPartChompedSpec)) fnPartChompedUptoCard

/-- THE SECOND FORM's CARD OF 'laws.FnHeaderRead'. -/
def fnHeaderReadUptoCard : Claim7 := { stood := { row := fnHeaderReadUptoRow, standIns := [], harness := (true, "0064fcce2abf2ddbc1ef1e89774fac2c4c3057361595511f240b1c62a0006bec"), looks := true }, kinds := [], alts := [], laidByText := true, laidKinds := [.data, .data, .data, .data, .sentinel, .sentinel, .pinned], laidTests := true, laidLooks := .later }
def FnHeaderReadUptoCardSaid : Prop := Claim7.holds Tryd.pinned (.plain (OpenSpec.upto fnHeaderReadSpec)) fnHeaderReadUptoCard

/-- THE SECOND FORM's CARD OF 'laws.FnGroupNames'. -/
def fnGroupNamesUptoCard : Claim7 := { stood := { row := fnGroupNamesUptoRow, standIns := [], harness := (true, "0064fcce2abf2ddbc1ef1e89774fac2c4c3057361595511f240b1c62a0006bec"), looks := true }, kinds := [], alts := [], laidByText := true, laidKinds := [.sentinel, .sentinel, .sentinel], laidTests := true, laidLooks := .later }
def FnGroupNamesUptoCardSaid : Prop := Claim7.holds Tryd.pinned (.plain (OpenSpec.upto fnGroupNamesSpec)) fnGroupNamesUptoCard

/-- THE SECOND FORM's CARD OF 'laws.FnPartLines'. -/
def fnPartLinesUptoCard : Claim7 := { stood := { row := fnPartLinesUptoRow, standIns := [], harness := (true, "0064fcce2abf2ddbc1ef1e89774fac2c4c3057361595511f240b1c62a0006bec"), looks := true }, kinds := [], alts := [], laidByText := true, laidKinds := [.data, .pinned], laidTests := true, laidLooks := .later }
def FnPartLinesUptoCardSaid : Prop := Claim7.holds Tryd.pinned (.plain (OpenSpec.upto fnPartLinesSpec)) fnPartLinesUptoCard
end Rows
end Go.Proofs.YtmildhkegpmacaaDoor
