/-
  DERIVED. GIVEN WITH THE SEED: THE CARDS: each row of YtlkbhmmelejmjaaGreatDoorRows.lean that lists a variable, with what it lists TIED to the program's text (the seventh form; the later family's looks); each row that meets fmt, with fmt's text TOLD by the authors' own Lean function (tested against real Go, not proved from fmt's source: count such statements apart). THE CARD IS WHAT COUNTS. Prove the row's statement (the work); the ties are given (YtlkbhmmelejmjaaGreatDoorTie.lean); close each card by the builder's one call (the guide's Derived/Test/ToyasCard.lean, 'card_holds'). Laid BY PROGRAM, IN A SANDBOX (cutbox-door.mjs). By AI agents, Wed Nov 11 2026. No macro, syntax, notation, axiom, sorry.
-/
import Derived.Test.YtlkbhmmelejmjaaGreatDoorRows
import GoSem.ClaimSeven
namespace Go.Proofs.YtlkbhmmelejmjaaGreatDoor
namespace Rows

/-- THE TIED CARD OF 'laws.FnTokenMade'. -/
def fnTokenMadeCard : Claim7 := { stood := { row := fnTokenMadeRow, standIns := [], harness := (true, "f0ab18dab450b15583f28834eb8e9cf81bd7c9701bba7b54502914fb8b0cde7f"), looks := true }, kinds := [], alts := [], laidByText := true, laidKinds := [.data, .data, .widerDeep, .widerDeep, .data, .data, .data, .data, .data, .sentinel, .sentinel, .pinned, .pinned], laidTests := true, laidLooks := .later }
def FnTokenMadeCardSaid : Prop := Claim7.holds Tryz.pinned (.plain (OpenSpec.ofChange fnTokenMadeSpec)) fnTokenMadeCard

/-- THE TIED CARD OF 'laws.FnTokenAdded'. -/
def fnTokenAddedCard : Claim7 := { stood := { row := fnTokenAddedRow, standIns := [], harness := (true, "f0ab18dab450b15583f28834eb8e9cf81bd7c9701bba7b54502914fb8b0cde7f"), looks := true }, kinds := [], alts := [], laidByText := true, laidKinds := [.data, .data, .widerDeep, .widerDeep, .data, .data, .data, .data, .data, .sentinel, .sentinel, .pinned, .pinned], laidTests := true, laidLooks := .later }
def FnTokenAddedCardSaid : Prop := Claim7.holds Tryz.pinned (.plain (OpenSpec.ofChange fnTokenAddedSpec)) fnTokenAddedCard

/-- THE TIED CARD OF 'laws.FnNumberToken'. -/
def fnNumberTokenCard : Claim7 := { stood := { row := fnNumberTokenRow, standIns := [], harness := (true, "f0ab18dab450b15583f28834eb8e9cf81bd7c9701bba7b54502914fb8b0cde7f"), looks := true }, kinds := [], alts := [], laidByText := true, laidKinds := [.data, .data, .widerDeep, .widerDeep, .data, .data, .data, .data, .data, .sentinel, .sentinel, .pinned, .pinned], laidTests := true, laidLooks := .later }
def FnNumberTokenCardSaid : Prop := Claim7.holds Tryz.pinned (.plain (OpenSpec.ofChange fnNumberTokenSpec)) fnNumberTokenCard

/-- THE TIED CARD OF 'laws.FnQuotesSigns'. -/
def fnQuotesSignsCard : Claim7 := { stood := { row := fnQuotesSignsRow, standIns := [], harness := (true, "f0ab18dab450b15583f28834eb8e9cf81bd7c9701bba7b54502914fb8b0cde7f"), looks := true }, kinds := [], alts := [], laidByText := true, laidKinds := [.data, .data, .widerDeep, .widerDeep, .data, .data, .data, .data, .data, .data, .sentinel, .sentinel, .pinned, .pinned, .pinned], laidTests := true, laidLooks := .later }
def FnQuotesSignsCardSaid : Prop := Claim7.holds Tryz.pinned (.plain (OpenSpec.ofChange fnQuotesSignsSpec)) fnQuotesSignsCard

/-- THE TIED CARD OF 'laws.FnQuotesWords'. -/
def fnQuotesWordsCard : Claim7 := { stood := { row := fnQuotesWordsRow, standIns := [], harness := (true, "f0ab18dab450b15583f28834eb8e9cf81bd7c9701bba7b54502914fb8b0cde7f"), looks := true }, kinds := [], alts := [], laidByText := true, laidKinds := [.data, .data, .widerDeep, .widerDeep, .data, .data, .data, .data, .data, .data, .sentinel, .sentinel, .pinned, .pinned, .pinned], laidTests := true, laidLooks := .later }
def FnQuotesWordsCardSaid : Prop := Claim7.holds Tryz.pinned (.plain (OpenSpec.ofChange fnQuotesWordsSpec)) fnQuotesWordsCard

/-- THE TIED CARD OF 'laws.FnNumberWords'. -/
def fnNumberWordsCard : Claim7 := { stood := { row := fnNumberWordsRow, standIns := [], harness := (true, "f0ab18dab450b15583f28834eb8e9cf81bd7c9701bba7b54502914fb8b0cde7f"), looks := true }, kinds := [], alts := [], laidByText := true, laidKinds := [.data, .data, .widerDeep, .widerDeep, .data, .data, .data, .data, .data, .sentinel, .sentinel, .pinned, .pinned], laidTests := true, laidLooks := .later }
def FnNumberWordsCardSaid : Prop := Claim7.holds Tryz.pinned (.plain (OpenSpec.ofChange fnNumberWordsSpec)) fnNumberWordsCard

/-- THE SECOND FORM's CARD OF 'laws.FnTokenMade'. -/
def fnTokenMadeUptoCard : Claim7 := { stood := { row := fnTokenMadeUptoRow, standIns := [], harness := (true, "f0ab18dab450b15583f28834eb8e9cf81bd7c9701bba7b54502914fb8b0cde7f"), looks := true }, kinds := [], alts := [], laidByText := true, laidKinds := [.data, .data, .widerDeep, .widerDeep, .data, .data, .data, .data, .data, .sentinel, .sentinel, .pinned, .pinned], laidTests := true, laidLooks := .later }
def FnTokenMadeUptoCardSaid : Prop := Claim7.holds Tryz.pinned (.plain (OpenSpec.upto fnTokenMadeSpec)) fnTokenMadeUptoCard

/-- THE SECOND FORM's CARD OF 'laws.FnTokenAdded'. -/
def fnTokenAddedUptoCard : Claim7 := { stood := { row := fnTokenAddedUptoRow, standIns := [], harness := (true, "f0ab18dab450b15583f28834eb8e9cf81bd7c9701bba7b54502914fb8b0cde7f"), looks := true }, kinds := [], alts := [], laidByText := true, laidKinds := [.data, .data, .widerDeep, .widerDeep, .data, .data, .data, .data, .data, .sentinel, .sentinel, .pinned, .pinned], laidTests := true, laidLooks := .later }
def FnTokenAddedUptoCardSaid : Prop := Claim7.holds Tryz.pinned (.plain (OpenSpec.upto fnTokenAddedSpec)) fnTokenAddedUptoCard

/-- THE SECOND FORM's CARD OF 'laws.FnNumberToken'. -/
def fnNumberTokenUptoCard : Claim7 := { stood := { row := fnNumberTokenUptoRow, standIns := [], harness := (true, "f0ab18dab450b15583f28834eb8e9cf81bd7c9701bba7b54502914fb8b0cde7f"), looks := true }, kinds := [], alts := [], laidByText := true, laidKinds := [.data, .data, .widerDeep, .widerDeep, .data, .data, .data, .data, .data, .sentinel, .sentinel, .pinned, .pinned], laidTests := true, laidLooks := .later }
def FnNumberTokenUptoCardSaid : Prop := Claim7.holds Tryz.pinned (.plain (OpenSpec.upto fnNumberTokenSpec)) fnNumberTokenUptoCard

/-- THE SECOND FORM's CARD OF 'laws.FnQuotesSigns'. -/
def fnQuotesSignsUptoCard : Claim7 := { stood := { row := fnQuotesSignsUptoRow, standIns := [], harness := (true, "f0ab18dab450b15583f28834eb8e9cf81bd7c9701bba7b54502914fb8b0cde7f"), looks := true }, kinds := [], alts := [], laidByText := true, laidKinds := [.data, .data, .widerDeep, .widerDeep, .data, .data, .data, .data, .data, .data, .sentinel, .sentinel, .pinned, .pinned, .pinned], laidTests := true, laidLooks := .later }
def FnQuotesSignsUptoCardSaid : Prop := Claim7.holds Tryz.pinned (.plain (OpenSpec.upto fnQuotesSignsSpec)) fnQuotesSignsUptoCard

/-- THE SECOND FORM's CARD OF 'laws.FnQuotesWords'. -/
def fnQuotesWordsUptoCard : Claim7 := { stood := { row := fnQuotesWordsUptoRow, standIns := [], harness := (true, "f0ab18dab450b15583f28834eb8e9cf81bd7c9701bba7b54502914fb8b0cde7f"), looks := true }, kinds := [], alts := [], laidByText := true, laidKinds := [.data, .data, .widerDeep, .widerDeep, .data, .data, .data, .data, .data, .data, .sentinel, .sentinel, .pinned, .pinned, .pinned], laidTests := true, laidLooks := .later }
def FnQuotesWordsUptoCardSaid : Prop := Claim7.holds Tryz.pinned (.plain (OpenSpec.upto fnQuotesWordsSpec)) fnQuotesWordsUptoCard

/-- THE SECOND FORM's CARD OF 'laws.FnNumberWords'. -/
def fnNumberWordsUptoCard : Claim7 := { stood := { row := fnNumberWordsUptoRow, standIns := [], harness := (true, "f0ab18dab450b15583f28834eb8e9cf81bd7c9701bba7b54502914fb8b0cde7f"), looks := true }, kinds := [], alts := [], laidByText := true, laidKinds := [.data, .data, .widerDeep, .widerDeep, .data, .data, .data, .data, .data, .sentinel, .sentinel, .pinned, .pinned], laidTests := true, laidLooks := .later }
def FnNumberWordsUptoCardSaid : Prop := Claim7.holds Tryz.pinned (.plain (OpenSpec.upto fnNumberWordsSpec)) fnNumberWordsUptoCard
end Rows
end Go.Proofs.YtlkbhmmelejmjaaGreatDoor
