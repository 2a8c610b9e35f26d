/-
  DERIVED. GIVEN WITH THE SEED: THE CARDS: each row of YtgglhfbjbddjjaaDoorRows.lean that lists a variable, with what it lists TIED to the program's text (the seventh form; the later family's looks); each row that meets fmt, with fmt's text TOLD by the authors' own Lean function (tested against real Go, not proved from fmt's source: count such statements apart). THE CARD IS WHAT COUNTS. Prove the row's statement (the work); the ties are given (YtgglhfbjbddjjaaDoorTie.lean); close each card by the builder's one call (the guide's Derived/Test/ToyasCard.lean, 'card_holds'). Laid BY PROGRAM, IN A SANDBOX (cutbox-door.mjs). By AI agents, Wed Nov 11 2026. No macro, syntax, notation, axiom, sorry.
-/
import Derived.Test.YtgglhfbjbddjjaaDoorRows
import GoSem.ClaimSeven
namespace Go.Proofs.YtgglhfbjbddjjaaDoor
namespace Rows

/-- THE TIED CARD OF 'laws.FnPartLines'. -/
def fnPartLinesCard : Claim7 := { stood := { row := fnPartLinesRow, standIns := [], harness := (true, "253d3034e0606b0f8d86cbf0f04aff675e0852c6c17c9b014e58a4ac58b7fc06"), looks := false }, kinds := [], alts := [], laidByText := true, laidKinds := [.data, .pinned], laidTests := true, laidLooks := .later }
def FnPartLinesCardSaid : Prop := Claim7.holds Tryd.pinned (.plain (OpenSpec.ofChange fnPartLinesSpec)) fnPartLinesCard

/-- THE SECOND FORM's CARD OF 'laws.FnPartLines'. -/
def fnPartLinesUptoCard : Claim7 := { stood := { row := fnPartLinesUptoRow, standIns := [], harness := (true, "253d3034e0606b0f8d86cbf0f04aff675e0852c6c17c9b014e58a4ac58b7fc06"), looks := false }, kinds := [], alts := [], laidByText := true, laidKinds := [.data, .pinned], laidTests := true, laidLooks := .later }
def FnPartLinesUptoCardSaid : Prop := Claim7.holds Tryd.pinned (.plain (OpenSpec.upto fnPartLinesSpec)) fnPartLinesUptoCard
end Rows
end Go.Proofs.YtgglhfbjbddjjaaDoor
