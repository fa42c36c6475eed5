/-
  No cell of these rows narrows 'for every input' (looked for: loops, veiled, ifaces, maps, wideKeys, modest, calm, conditions, laid).
  DERIVED. THE GIVEN ROWS OF THIS SEAT. 3 by the template 'for every input the law returns true; each argument reads behind the call as it read before'; 0 by the template 'total and deterministic' (their statements: YtmglknhkhfkjcaaTotals.lean).
  GIVEN WITH THE SEED: the statements are not yours to turn. If you find one false, say at which input.
  Laid BY PROGRAM, IN A SANDBOX (cutbox-rows.mjs): the forced cells as the released guide's own fill.sh prints them over the translation 1f0cddef4c8a4363… (all of the seat's roots in one cut). By AI agents, Wed Nov 11 2026. No macro, syntax, notation, axiom, sorry.
-/
import Derived.Test.YtmglknhkhfkjcaaChecked
import GoSem.Claim
import GoSem.ClaimJoined
import GoSem.ClaimMapViews
import Derived.JoinedTies
import Derived.KernelRfl
namespace Go.Proofs.Ytmglknhkhfkjcaa
/- THE CELL 'sum', in the pinned program and in every row, IS THE sha256 OF THE DUMP (.gsa) THAT YtmglknhkhfkjcaaProg.lean LOADS. Nothing in Lean hashes anything: it is a label: what it is worth is what the hold of that sum in a sandbox is worth. -/
noncomputable def Try.pinned : Pinned := { name := "ytmglknhkhfkjcaa", sum := "1f0cddef4c8a4363647c6abfcb4fc5c318ae7d925873daeacdaa86e5a5161fc6", checked := Try.checked }
namespace Rows
def none {H : Type} : Left H := { results := [], args := [] }

/-- 'n003_9.FnSplitLinesAgreesWithSnippet': WHATEVER THE INPUT: true; the input reads as it did. -/
def fnSplitLinesAgreesWithSnippetSpec : ChangeSpec := { name := "fnSplitLinesAgreesWithSnippet", fn := fun _ => fun
  | [d1, d2] => { results := [.lit (.bool true)], args := [d1, d2] }
  | _ => none }
def fnSplitLinesAgreesWithSnippetRow : OpenClaim := { program := "ytmglknhkhfkjcaa", sum := "1f0cddef4c8a4363647c6abfcb4fc5c318ae7d925873daeacdaa86e5a5161fc6", func := "github.com/expr-lang/expr/n003_9.FnSplitLinesAgreesWithSnippet", spec := "fnSplitLinesAgreesWithSnippet", inPlace := ["internal/bytealg.IndexByteString"], apart := false }
def FnSplitLinesAgreesWithSnippetSaid : Prop := fnSplitLinesAgreesWithSnippetRow.holds Try.pinned (OpenSpec.ofChange fnSplitLinesAgreesWithSnippetSpec)

/-- ITS FALSE NEIGHBOUR: 'it returns false'. Refute it at one input. -/
def fnSplitLinesAgreesWithSnippetWrong : ChangeSpec := { name := "fnSplitLinesAgreesWithSnippet", fn := fun _ => fun
  | [d1, d2] => { results := [.lit (.bool false)], args := [d1, d2] }
  | _ => none }
def FnSplitLinesAgreesWithSnippetWrongFalsely : Prop := fnSplitLinesAgreesWithSnippetRow.holds Try.pinned (OpenSpec.ofChange fnSplitLinesAgreesWithSnippetWrong)

/-- 'n003_9.FnSplitLinesEachLineEndsInItsOnlyNewline': WHATEVER THE INPUT: true; the input reads as it did. -/
def fnSplitLinesEachLineEndsInItsOnlyNewlineSpec : ChangeSpec := { name := "fnSplitLinesEachLineEndsInItsOnlyNewline", fn := fun _ => fun
  | [d] => { results := [.lit (.bool true)], args := [d] }
  | _ => none }
def fnSplitLinesEachLineEndsInItsOnlyNewlineRow : OpenClaim := { program := "ytmglknhkhfkjcaa", sum := "1f0cddef4c8a4363647c6abfcb4fc5c318ae7d925873daeacdaa86e5a5161fc6", func := "github.com/expr-lang/expr/n003_9.FnSplitLinesEachLineEndsInItsOnlyNewline", spec := "fnSplitLinesEachLineEndsInItsOnlyNewline", apart := false }
def FnSplitLinesEachLineEndsInItsOnlyNewlineSaid : Prop := fnSplitLinesEachLineEndsInItsOnlyNewlineRow.holds Try.pinned (OpenSpec.ofChange fnSplitLinesEachLineEndsInItsOnlyNewlineSpec)

/-- ITS FALSE NEIGHBOUR: 'it returns false'. Refute it at one input. -/
def fnSplitLinesEachLineEndsInItsOnlyNewlineWrong : ChangeSpec := { name := "fnSplitLinesEachLineEndsInItsOnlyNewline", fn := fun _ => fun
  | [d] => { results := [.lit (.bool false)], args := [d] }
  | _ => none }
def FnSplitLinesEachLineEndsInItsOnlyNewlineWrongFalsely : Prop := fnSplitLinesEachLineEndsInItsOnlyNewlineRow.holds Try.pinned (OpenSpec.ofChange fnSplitLinesEachLineEndsInItsOnlyNewlineWrong)

/-- 'n003_9.FnSplitLinesJoinIsInputPlusNewline': WHATEVER THE INPUT: true; the input reads as it did. -/
def fnSplitLinesJoinIsInputPlusNewlineSpec : ChangeSpec := { name := "fnSplitLinesJoinIsInputPlusNewline", fn := fun _ => fun
  | [d] => { results := [.lit (.bool true)], args := [d] }
  | _ => none }
def fnSplitLinesJoinIsInputPlusNewlineRow : OpenClaim := { program := "ytmglknhkhfkjcaa", sum := "1f0cddef4c8a4363647c6abfcb4fc5c318ae7d925873daeacdaa86e5a5161fc6", func := "github.com/expr-lang/expr/n003_9.FnSplitLinesJoinIsInputPlusNewline", spec := "fnSplitLinesJoinIsInputPlusNewline", apart := false }
def FnSplitLinesJoinIsInputPlusNewlineSaid : Prop := fnSplitLinesJoinIsInputPlusNewlineRow.holds Try.pinned (OpenSpec.ofChange fnSplitLinesJoinIsInputPlusNewlineSpec)

/-- ITS FALSE NEIGHBOUR: 'it returns false'. Refute it at one input. -/
def fnSplitLinesJoinIsInputPlusNewlineWrong : ChangeSpec := { name := "fnSplitLinesJoinIsInputPlusNewline", fn := fun _ => fun
  | [d] => { results := [.lit (.bool false)], args := [d] }
  | _ => none }
def FnSplitLinesJoinIsInputPlusNewlineWrongFalsely : Prop := fnSplitLinesJoinIsInputPlusNewlineRow.holds Try.pinned (OpenSpec.ofChange fnSplitLinesJoinIsInputPlusNewlineWrong)

/- THE SECOND FORM. 'bulk': how many values and letters a reading holds, each counted each time it is reached (what is shared counts as often as it is met; a slice's spare places count too). A statement '..UptoSaid' is the law's where the arguments, and the package variables that the reading takes, are together of bulk at most 1048576: NARROWER than '..Said'. Prove '..Said' where nothing that the law and all that it calls make is longer than what came in: it says more and counts as full. Else prove '..UptoSaid'. A law counts once. -/
mutual
def uptoBulk {H : Type} : DataW H → Nat
  | .lit (.string bytes) => bytes.length + 1
  | .lit _ => 1
  | .nil => 1
  | .ptr d => uptoBulk d + 1
  | .slice elems spare => uptoBulkAll elems + uptoBulkAll spare + 1
  | .agg parts => uptoBulkAll parts + 1
  | .iface _ d => uptoBulk d + 1
  | .map entries => uptoBulkEntries entries + 1
  | .held _ => 1
def uptoBulkAll {H : Type} : List (DataW H) → Nat
  | [] => 0
  | d :: r => uptoBulk d + uptoBulkAll r
def uptoBulkEntries {H : Type} : List (Lit × DataW H) → Nat
  | [] => 0
  | x :: r => uptoBulkEntry x + uptoBulkEntries r
def uptoBulkEntry {H : Type} : Lit × DataW H → Nat
  | (.string bytes, d) => bytes.length + uptoBulk d + 1
  | (_, d) => uptoBulk d + 1
 end
def uptoSmall : (H : Type) → List (DataW H) → Bool := fun _ ds => decide (uptoBulkAll ds ≤ 1048576)
def OpenSpec.upto (s : _root_.Go.ChangeSpec) : _root_.Go.OpenSpec := { _root_.Go.OpenSpec.ofChange s with cond := some uptoSmall }

/-- 'n003_9.FnSplitLinesAgreesWithSnippet', WHERE WHAT IT READS IS OF BULK AT MOST 1048576: true; the input reads as it did. -/
def fnSplitLinesAgreesWithSnippetUptoRow : OpenClaim := { program := "ytmglknhkhfkjcaa", sum := "1f0cddef4c8a4363647c6abfcb4fc5c318ae7d925873daeacdaa86e5a5161fc6", func := "github.com/expr-lang/expr/n003_9.FnSplitLinesAgreesWithSnippet", spec := "fnSplitLinesAgreesWithSnippet", inPlace := ["internal/bytealg.IndexByteString"], apart := false, narrowed := true }
def FnSplitLinesAgreesWithSnippetUptoSaid : Prop := fnSplitLinesAgreesWithSnippetUptoRow.holds Try.pinned (OpenSpec.upto fnSplitLinesAgreesWithSnippetSpec)

/-- 'n003_9.FnSplitLinesEachLineEndsInItsOnlyNewline', WHERE WHAT IT READS IS OF BULK AT MOST 1048576: true; the input reads as it did. -/
def fnSplitLinesEachLineEndsInItsOnlyNewlineUptoRow : OpenClaim := { program := "ytmglknhkhfkjcaa", sum := "1f0cddef4c8a4363647c6abfcb4fc5c318ae7d925873daeacdaa86e5a5161fc6", func := "github.com/expr-lang/expr/n003_9.FnSplitLinesEachLineEndsInItsOnlyNewline", spec := "fnSplitLinesEachLineEndsInItsOnlyNewline", apart := false, narrowed := true }
def FnSplitLinesEachLineEndsInItsOnlyNewlineUptoSaid : Prop := fnSplitLinesEachLineEndsInItsOnlyNewlineUptoRow.holds Try.pinned (OpenSpec.upto fnSplitLinesEachLineEndsInItsOnlyNewlineSpec)

/-- 'n003_9.FnSplitLinesJoinIsInputPlusNewline', WHERE WHAT IT READS IS OF BULK AT MOST 1048576: true; the input reads as it did. -/
def fnSplitLinesJoinIsInputPlusNewlineUptoRow : OpenClaim := { program := "ytmglknhkhfkjcaa", sum := "1f0cddef4c8a4363647c6abfcb4fc5c318ae7d925873daeacdaa86e5a5161fc6", func := "github.com/expr-lang/expr/n003_9.FnSplitLinesJoinIsInputPlusNewline", spec := "fnSplitLinesJoinIsInputPlusNewline", apart := false, narrowed := true }
def FnSplitLinesJoinIsInputPlusNewlineUptoSaid : Prop := fnSplitLinesJoinIsInputPlusNewlineUptoRow.holds Try.pinned (OpenSpec.upto fnSplitLinesJoinIsInputPlusNewlineSpec)

end Rows
end Go.Proofs.Ytmglknhkhfkjcaa
