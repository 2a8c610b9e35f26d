/-
  No cell of these rows narrows 'for every input' (looked for: loops, veiled, ifaces, maps, wideKeys, modest, calm, conditions, laid).
  DERIVED. THE GIVEN ROWS OF THIS SEAT. 5 by the template 'for every input the law returns true; each argument reads behind the call as it read before'; 0 by the template 'total and deterministic' (their statements: YtmildhkegpmacaaTotals.lean).
  GIVEN WITH THE SEED: the statements are not yours to turn. If you find one false, say at which input.
  Laid BY PROGRAM, IN A SANDBOX (cutbox-rows.mjs): the forced cells as the released guide's own fill.sh prints them over the translation 2f8640089d5ee870… (all of the seat's roots in one cut). By AI agents, Wed Nov 11 2026. No macro, syntax, notation, axiom, sorry.
-/
import Derived.Test.YtmildhkegpmacaaChecked
import GoSem.Claim
import GoSem.ClaimJoined
import GoSem.ClaimMapViews
import Derived.JoinedTies
import Derived.KernelRfl
namespace Go.Proofs.Ytmildhkegpmacaa
/- THE CELL 'sum', in the pinned program and in every row, IS THE sha256 OF THE DUMP (.gsa) THAT YtmildhkegpmacaaProg.lean LOADS. Nothing in Lean hashes anything: it is a label: what it is worth is what the hold of that sum in a sandbox is worth. -/
noncomputable def Try.pinned : Pinned := { name := "ytmildhkegpmacaa", sum := "2f8640089d5ee8701289e070c7d376ac8a2502b670e51fd386d1aed1a0386b03", checked := Try.checked }
namespace Rows
def none {H : Type} : Left H := { results := [], args := [] }

/-- 'laws.FnBreakCounted': WHATEVER THE INPUT: true; the input reads as it did. -/
def fnBreakCountedSpec : ChangeSpec := { name := "fnBreakCounted", fn := fun _ => fun
  | [d] => { results := [.lit (.bool true)], args := [d] }
  | _ => none }
def fnBreakCountedRow : OpenClaim := { program := "ytmildhkegpmacaa", sum := "2f8640089d5ee8701289e070c7d376ac8a2502b670e51fd386d1aed1a0386b03", func := "given.example/pub-palinode/laws.FnBreakCounted", spec := "fnBreakCounted", apart := false }
def FnBreakCountedSaid : Prop := fnBreakCountedRow.holds Try.pinned (OpenSpec.ofChange fnBreakCountedSpec)

/-- ITS FALSE NEIGHBOUR: 'it returns false'. Refute it at one input. -/
def fnBreakCountedWrong : ChangeSpec := { name := "fnBreakCounted", fn := fun _ => fun
  | [d] => { results := [.lit (.bool false)], args := [d] }
  | _ => none }
def FnBreakCountedWrongFalsely : Prop := fnBreakCountedRow.holds Try.pinned (OpenSpec.ofChange fnBreakCountedWrong)

/-- 'laws.FnNamesNodes': WHATEVER THE INPUT: true; the input reads as it did. -/
def fnNamesNodesSpec : ChangeSpec := { name := "fnNamesNodes", fn := fun _ => fun
  | [d1, d2] => { results := [.lit (.bool true)], args := [d1, d2] }
  | _ => none }
def fnNamesNodesRow : OpenClaim := { program := "ytmildhkegpmacaa", sum := "2f8640089d5ee8701289e070c7d376ac8a2502b670e51fd386d1aed1a0386b03", func := "given.example/pub-palinode/laws.FnNamesNodes", spec := "fnNamesNodes", apart := false }
def FnNamesNodesSaid : Prop := fnNamesNodesRow.holds Try.pinned (OpenSpec.ofChange fnNamesNodesSpec)

/-- ITS FALSE NEIGHBOUR: 'it returns false'. Refute it at one input. -/
def fnNamesNodesWrong : ChangeSpec := { name := "fnNamesNodes", fn := fun _ => fun
  | [d1, d2] => { results := [.lit (.bool false)], args := [d1, d2] }
  | _ => none }
def FnNamesNodesWrongFalsely : Prop := fnNamesNodesRow.holds Try.pinned (OpenSpec.ofChange fnNamesNodesWrong)

/-- 'laws.FnNamesDiffer': WHATEVER THE INPUT: true; the input reads as it did. -/
def fnNamesDifferSpec : ChangeSpec := { name := "fnNamesDiffer", fn := fun _ => fun
  | [d1, d2] => { results := [.lit (.bool true)], args := [d1, d2] }
  | _ => none }
def fnNamesDifferRow : OpenClaim := { program := "ytmildhkegpmacaa", sum := "2f8640089d5ee8701289e070c7d376ac8a2502b670e51fd386d1aed1a0386b03", func := "given.example/pub-palinode/laws.FnNamesDiffer", spec := "fnNamesDiffer", apart := false }
def FnNamesDifferSaid : Prop := fnNamesDifferRow.holds Try.pinned (OpenSpec.ofChange fnNamesDifferSpec)

/-- ITS FALSE NEIGHBOUR: 'it returns false'. Refute it at one input. -/
def fnNamesDifferWrong : ChangeSpec := { name := "fnNamesDiffer", fn := fun _ => fun
  | [d1, d2] => { results := [.lit (.bool false)], args := [d1, d2] }
  | _ => none }
def FnNamesDifferWrongFalsely : Prop := fnNamesDifferRow.holds Try.pinned (OpenSpec.ofChange fnNamesDifferWrong)

/-- 'laws.FnIndentBack': WHATEVER THE INPUT: true; the input reads as it did. -/
def fnIndentBackSpec : ChangeSpec := { name := "fnIndentBack", fn := fun _ => fun
  | [d1, d2] => { results := [.lit (.bool true)], args := [d1, d2] }
  | _ => none }
def fnIndentBackRow : OpenClaim := { program := "ytmildhkegpmacaa", sum := "2f8640089d5ee8701289e070c7d376ac8a2502b670e51fd386d1aed1a0386b03", func := "given.example/pub-palinode/laws.FnIndentBack", spec := "fnIndentBack", inPlace := ["internal/abi.NoEscape", "internal/bytealg.MakeNoZero"], unfollowed := true, recurses := true, apart := false }
def FnIndentBackSaid : Prop := fnIndentBackRow.holds Try.pinned (OpenSpec.ofChange fnIndentBackSpec)

/-- ITS FALSE NEIGHBOUR: 'it returns false'. Refute it at one input. -/
def fnIndentBackWrong : ChangeSpec := { name := "fnIndentBack", fn := fun _ => fun
  | [d1, d2] => { results := [.lit (.bool false)], args := [d1, d2] }
  | _ => none }
def FnIndentBackWrongFalsely : Prop := fnIndentBackRow.holds Try.pinned (OpenSpec.ofChange fnIndentBackWrong)

/-- 'laws.FnPathMade': WHATEVER THE INPUT: true; the input reads as it did. -/
def fnPathMadeSpec : ChangeSpec := { name := "fnPathMade", fn := fun _ => fun
  | [d] => { results := [.lit (.bool true)], args := [d] }
  | _ => none }
def fnPathMadeRow : OpenClaim := { program := "ytmildhkegpmacaa", sum := "2f8640089d5ee8701289e070c7d376ac8a2502b670e51fd386d1aed1a0386b03", func := "given.example/pub-palinode/laws.FnPathMade", spec := "fnPathMade", unfollowed := true, recurses := true, apart := false }
def FnPathMadeSaid : Prop := fnPathMadeRow.holds Try.pinned (OpenSpec.ofChange fnPathMadeSpec)

/-- ITS FALSE NEIGHBOUR: 'it returns false'. Refute it at one input. -/
def fnPathMadeWrong : ChangeSpec := { name := "fnPathMade", fn := fun _ => fun
  | [d] => { results := [.lit (.bool false)], args := [d] }
  | _ => none }
def FnPathMadeWrongFalsely : Prop := fnPathMadeRow.holds Try.pinned (OpenSpec.ofChange fnPathMadeWrong)

/- THE SECOND FORM. 'bulk': how many values and letters a reading holds, each counted each time it is reached (what is shared counts as often as it is met; a slice's spare places count too). A statement '..UptoSaid' is the law's where the arguments, and the package variables that the reading takes, are together of bulk at most 1048576: NARROWER than '..Said'. Prove '..Said' where nothing that the law and all that it calls make is longer than what came in: it says more and counts as full. Else prove '..UptoSaid'. A law counts once. -/
mutual
def uptoBulk {H : Type} : DataW H → Nat
  | .lit (.string bytes) => bytes.length + 1
  | .lit _ => 1
  | .nil => 1
  | .ptr d => uptoBulk d + 1
  | .slice elems spare => uptoBulkAll elems + uptoBulkAll spare + 1
  | .agg parts => uptoBulkAll parts + 1
  | .iface _ d => uptoBulk d + 1
  | .map entries => uptoBulkEntries entries + 1
  | .held _ => 1
def uptoBulkAll {H : Type} : List (DataW H) → Nat
  | [] => 0
  | d :: r => uptoBulk d + uptoBulkAll r
def uptoBulkEntries {H : Type} : List (Lit × DataW H) → Nat
  | [] => 0
  | x :: r => uptoBulkEntry x + uptoBulkEntries r
def uptoBulkEntry {H : Type} : Lit × DataW H → Nat
  | (.string bytes, d) => bytes.length + uptoBulk d + 1
  | (_, d) => uptoBulk d + 1
 end
def uptoSmall : (H : Type) → List (DataW H) → Bool := fun _ ds => decide (uptoBulkAll ds ≤ 1048576)
def OpenSpec.upto (s : _root_.Go.ChangeSpec) : _root_.Go.OpenSpec := { _root_.Go.OpenSpec.ofChange s with cond := some uptoSmall }

/-- 'laws.FnBreakCounted', WHERE WHAT IT READS IS OF BULK AT MOST 1048576: true; the input reads as it did. -/
def fnBreakCountedUptoRow : OpenClaim := { program := "ytmildhkegpmacaa", sum := "2f8640089d5ee8701289e070c7d376ac8a2502b670e51fd386d1aed1a0386b03", func := "given.example/pub-palinode/laws.FnBreakCounted", spec := "fnBreakCounted", apart := false, narrowed := true }
def FnBreakCountedUptoSaid : Prop := fnBreakCountedUptoRow.holds Try.pinned (OpenSpec.upto fnBreakCountedSpec)

/-- 'laws.FnNamesNodes', WHERE WHAT IT READS IS OF BULK AT MOST 1048576: true; the input reads as it did. -/
def fnNamesNodesUptoRow : OpenClaim := { program := "ytmildhkegpmacaa", sum := "2f8640089d5ee8701289e070c7d376ac8a2502b670e51fd386d1aed1a0386b03", func := "given.example/pub-palinode/laws.FnNamesNodes", spec := "fnNamesNodes", apart := false, narrowed := true }
def FnNamesNodesUptoSaid : Prop := fnNamesNodesUptoRow.holds Try.pinned (OpenSpec.upto fnNamesNodesSpec)

/-- 'laws.FnNamesDiffer', WHERE WHAT IT READS IS OF BULK AT MOST 1048576: true; the input reads as it did. -/
def fnNamesDifferUptoRow : OpenClaim := { program := "ytmildhkegpmacaa", sum := "2f8640089d5ee8701289e070c7d376ac8a2502b670e51fd386d1aed1a0386b03", func := "given.example/pub-palinode/laws.FnNamesDiffer", spec := "fnNamesDiffer", apart := false, narrowed := true }
def FnNamesDifferUptoSaid : Prop := fnNamesDifferUptoRow.holds Try.pinned (OpenSpec.upto fnNamesDifferSpec)

/-- 'laws.FnIndentBack', WHERE WHAT IT READS IS OF BULK AT MOST 1048576: true; the input reads as it did. -/
def fnIndentBackUptoRow : OpenClaim := { program := "ytmildhkegpmacaa", sum := "2f8640089d5ee8701289e070c7d376ac8a2502b670e51fd386d1aed1a0386b03", func := "given.example/pub-palinode/laws.FnIndentBack", spec := "fnIndentBack", inPlace := ["internal/abi.NoEscape", "internal/bytealg.MakeNoZero"], unfollowed := true, recurses := true, apart := false, narrowed := true }
def FnIndentBackUptoSaid : Prop := fnIndentBackUptoRow.holds Try.pinned (OpenSpec.upto fnIndentBackSpec)

/-- 'laws.FnPathMade', WHERE WHAT IT READS IS OF BULK AT MOST 1048576: true; the input reads as it did. -/
def fnPathMadeUptoRow : OpenClaim := { program := "ytmildhkegpmacaa", sum := "2f8640089d5ee8701289e070c7d376ac8a2502b670e51fd386d1aed1a0386b03", func := "given.example/pub-palinode/laws.FnPathMade", spec := "fnPathMade", unfollowed := true, recurses := true, apart := false, narrowed := true }
def FnPathMadeUptoSaid : Prop := fnPathMadeUptoRow.holds Try.pinned (OpenSpec.upto fnPathMadeSpec)

end Rows
end Go.Proofs.Ytmildhkegpmacaa
