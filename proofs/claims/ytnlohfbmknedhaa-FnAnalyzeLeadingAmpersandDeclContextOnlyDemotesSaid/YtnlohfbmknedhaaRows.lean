/-
  No cell of these rows narrows 'for every input' (looked for: loops, veiled, ifaces, maps, wideKeys, modest, calm, conditions, laid).
  DERIVED. THE GIVEN ROWS OF THIS SEAT. 5 by the template 'for every input the law returns true; each argument reads behind the call as it read before'; 0 by the template 'total and deterministic' (their statements: YtnlohfbmknedhaaTotals.lean).
  GIVEN WITH THE SEED: the statements are not yours to turn. If you find one false, say at which input.
  Laid BY PROGRAM, IN A SANDBOX (cutbox-rows.mjs): the forced cells as the released guide's own fill.sh prints them over the translation 56900fae1802d084… (all of the seat's roots in one cut). By AI agents, Wed Nov 11 2026. No macro, syntax, notation, axiom, sorry.
-/
import Derived.Test.YtnlohfbmknedhaaChecked
import GoSem.Claim
import GoSem.ClaimJoined
import GoSem.ClaimMapViews
import Derived.JoinedTies
import Derived.KernelRfl
namespace Go.Proofs.Ytnlohfbmknedhaa
/- THE CELL 'sum', in the pinned program and in every row, IS THE sha256 OF THE DUMP (.gsa) THAT YtnlohfbmknedhaaProg.lean LOADS. Nothing in Lean hashes anything: it is a label: what it is worth is what the hold of that sum in a sandbox is worth. -/
noncomputable def Try.pinned : Pinned := { name := "ytnlohfbmknedhaa", sum := "56900fae1802d08475e66c70dcb93f94294f9ebd0068f590511f0ed79db31352", checked := Try.checked }
namespace Rows
def none {H : Type} : Left H := { results := [], args := [] }

/-- 'n011_84.FnHexRAgreesWithLeadingDigits': WHATEVER THE INPUT: true; the input reads as it did. -/
def fnHexRAgreesWithLeadingDigitsSpec : ChangeSpec := { name := "fnHexRAgreesWithLeadingDigits", fn := fun _ => fun
  | [d] => { results := [.lit (.bool true)], args := [d] }
  | _ => none }
def fnHexRAgreesWithLeadingDigitsRow : OpenClaim := { program := "ytnlohfbmknedhaa", sum := "56900fae1802d08475e66c70dcb93f94294f9ebd0068f590511f0ed79db31352", func := "github.com/evanw/esbuild/n011_84.FnHexRAgreesWithLeadingDigits", spec := "fnHexRAgreesWithLeadingDigits", plainKeys := false, apart := false }
def FnHexRAgreesWithLeadingDigitsSaid : Prop := fnHexRAgreesWithLeadingDigitsRow.holds Try.pinned (OpenSpec.ofChange fnHexRAgreesWithLeadingDigitsSpec)

/-- ITS FALSE NEIGHBOUR: 'it returns false'. Refute it at one input. -/
def fnHexRAgreesWithLeadingDigitsWrong : ChangeSpec := { name := "fnHexRAgreesWithLeadingDigits", fn := fun _ => fun
  | [d] => { results := [.lit (.bool false)], args := [d] }
  | _ => none }
def FnHexRAgreesWithLeadingDigitsWrongFalsely : Prop := fnHexRAgreesWithLeadingDigitsRow.holds Try.pinned (OpenSpec.ofChange fnHexRAgreesWithLeadingDigitsWrong)

/-- 'n011_283.FnPeekAnswersTheCurrentKind': WHATEVER THE INPUT: true; the input reads as it did. -/
def fnPeekAnswersTheCurrentKindSpec : ChangeSpec := { name := "fnPeekAnswersTheCurrentKind", fn := fun _ => fun
  | [d1, d2, d3, d4, d5, d6] => { results := [.lit (.bool true)], args := [d1, d2, d3, d4, d5, d6] }
  | _ => none }
def fnPeekAnswersTheCurrentKindRow : OpenClaim := { program := "ytnlohfbmknedhaa", sum := "56900fae1802d08475e66c70dcb93f94294f9ebd0068f590511f0ed79db31352", func := "github.com/evanw/esbuild/n011_283.FnPeekAnswersTheCurrentKind", spec := "fnPeekAnswersTheCurrentKind", plainKeys := false, apart := false }
def FnPeekAnswersTheCurrentKindSaid : Prop := fnPeekAnswersTheCurrentKindRow.holds Try.pinned (OpenSpec.ofChange fnPeekAnswersTheCurrentKindSpec)

/-- ITS FALSE NEIGHBOUR: 'it returns false'. Refute it at one input. -/
def fnPeekAnswersTheCurrentKindWrong : ChangeSpec := { name := "fnPeekAnswersTheCurrentKind", fn := fun _ => fun
  | [d1, d2, d3, d4, d5, d6] => { results := [.lit (.bool false)], args := [d1, d2, d3, d4, d5, d6] }
  | _ => none }
def FnPeekAnswersTheCurrentKindWrongFalsely : Prop := fnPeekAnswersTheCurrentKindRow.holds Try.pinned (OpenSpec.ofChange fnPeekAnswersTheCurrentKindWrong)

/-- 'n011_99.FnParseCombinatorGreedyRun': WHATEVER THE INPUT: true; the input reads as it did. -/
def fnParseCombinatorGreedyRunSpec : ChangeSpec := { name := "fnParseCombinatorGreedyRun", fn := fun _ => fun
  | [d1, d2] => { results := [.lit (.bool true)], args := [d1, d2] }
  | _ => none }
def fnParseCombinatorGreedyRunRow : OpenClaim := { program := "ytnlohfbmknedhaa", sum := "56900fae1802d08475e66c70dcb93f94294f9ebd0068f590511f0ed79db31352", func := "github.com/evanw/esbuild/n011_99.FnParseCombinatorGreedyRun", spec := "fnParseCombinatorGreedyRun", plainKeys := false, apart := false }
def FnParseCombinatorGreedyRunSaid : Prop := fnParseCombinatorGreedyRunRow.holds Try.pinned (OpenSpec.ofChange fnParseCombinatorGreedyRunSpec)

/-- ITS FALSE NEIGHBOUR: 'it returns false'. Refute it at one input. -/
def fnParseCombinatorGreedyRunWrong : ChangeSpec := { name := "fnParseCombinatorGreedyRun", fn := fun _ => fun
  | [d1, d2] => { results := [.lit (.bool false)], args := [d1, d2] }
  | _ => none }
def FnParseCombinatorGreedyRunWrongFalsely : Prop := fnParseCombinatorGreedyRunRow.holds Try.pinned (OpenSpec.ofChange fnParseCombinatorGreedyRunWrong)

/-- 'n011_256.FnAnalyzeLeadingAmpersandDeclContextOnlyDemotes': WHATEVER THE INPUT: true; the input reads as it did. -/
def fnAnalyzeLeadingAmpersandDeclContextOnlyDemotesSpec : ChangeSpec := { name := "fnAnalyzeLeadingAmpersandDeclContextOnlyDemotes", fn := fun _ => fun
  | [d1, d2, d3, d4] => { results := [.lit (.bool true)], args := [d1, d2, d3, d4] }
  | _ => none }
def fnAnalyzeLeadingAmpersandDeclContextOnlyDemotesRow : OpenClaim := { program := "ytnlohfbmknedhaa", sum := "56900fae1802d08475e66c70dcb93f94294f9ebd0068f590511f0ed79db31352", func := "github.com/evanw/esbuild/n011_256.FnAnalyzeLeadingAmpersandDeclContextOnlyDemotes", spec := "fnAnalyzeLeadingAmpersandDeclContextOnlyDemotes", recurses := true, plainKeys := false, apart := false }
def FnAnalyzeLeadingAmpersandDeclContextOnlyDemotesSaid : Prop := fnAnalyzeLeadingAmpersandDeclContextOnlyDemotesRow.holds Try.pinned (OpenSpec.ofChange fnAnalyzeLeadingAmpersandDeclContextOnlyDemotesSpec)

/-- ITS FALSE NEIGHBOUR: 'it returns false'. Refute it at one input. -/
def fnAnalyzeLeadingAmpersandDeclContextOnlyDemotesWrong : ChangeSpec := { name := "fnAnalyzeLeadingAmpersandDeclContextOnlyDemotes", fn := fun _ => fun
  | [d1, d2, d3, d4] => { results := [.lit (.bool false)], args := [d1, d2, d3, d4] }
  | _ => none }
def FnAnalyzeLeadingAmpersandDeclContextOnlyDemotesWrongFalsely : Prop := fnAnalyzeLeadingAmpersandDeclContextOnlyDemotesRow.holds Try.pinned (OpenSpec.ofChange fnAnalyzeLeadingAmpersandDeclContextOnlyDemotesWrong)

/-- 'n011_283.FnRawOfEatenTokensRebuildsTheSource': WHATEVER THE INPUT: true; the input reads as it did. -/
def fnRawOfEatenTokensRebuildsTheSourceSpec : ChangeSpec := { name := "fnRawOfEatenTokensRebuildsTheSource", fn := fun _ => fun
  | [d1, d2] => { results := [.lit (.bool true)], args := [d1, d2] }
  | _ => none }
def fnRawOfEatenTokensRebuildsTheSourceRow : OpenClaim := { program := "ytnlohfbmknedhaa", sum := "56900fae1802d08475e66c70dcb93f94294f9ebd0068f590511f0ed79db31352", func := "github.com/evanw/esbuild/n011_283.FnRawOfEatenTokensRebuildsTheSource", spec := "fnRawOfEatenTokensRebuildsTheSource", plainKeys := false, apart := false }
def FnRawOfEatenTokensRebuildsTheSourceSaid : Prop := fnRawOfEatenTokensRebuildsTheSourceRow.holds Try.pinned (OpenSpec.ofChange fnRawOfEatenTokensRebuildsTheSourceSpec)

/-- ITS FALSE NEIGHBOUR: 'it returns false'. Refute it at one input. -/
def fnRawOfEatenTokensRebuildsTheSourceWrong : ChangeSpec := { name := "fnRawOfEatenTokensRebuildsTheSource", fn := fun _ => fun
  | [d1, d2] => { results := [.lit (.bool false)], args := [d1, d2] }
  | _ => none }
def FnRawOfEatenTokensRebuildsTheSourceWrongFalsely : Prop := fnRawOfEatenTokensRebuildsTheSourceRow.holds Try.pinned (OpenSpec.ofChange fnRawOfEatenTokensRebuildsTheSourceWrong)

/- THE SECOND FORM. 'bulk': how many values and letters a reading holds, each counted each time it is reached (what is shared counts as often as it is met; a slice's spare places count too). A statement '..UptoSaid' is the law's where the arguments, and the package variables that the reading takes, are together of bulk at most 1048576: NARROWER than '..Said'. Prove '..Said' where nothing that the law and all that it calls make is longer than what came in: it says more and counts as full. Else prove '..UptoSaid'. A law counts once. -/
mutual
def uptoBulk {H : Type} : DataW H → Nat
  | .lit (.string bytes) => bytes.length + 1
  | .lit _ => 1
  | .nil => 1
  | .ptr d => uptoBulk d + 1
  | .slice elems spare => uptoBulkAll elems + uptoBulkAll spare + 1
  | .agg parts => uptoBulkAll parts + 1
  | .iface _ d => uptoBulk d + 1
  | .map entries => uptoBulkEntries entries + 1
  | .held _ => 1
def uptoBulkAll {H : Type} : List (DataW H) → Nat
  | [] => 0
  | d :: r => uptoBulk d + uptoBulkAll r
def uptoBulkEntries {H : Type} : List (Lit × DataW H) → Nat
  | [] => 0
  | x :: r => uptoBulkEntry x + uptoBulkEntries r
def uptoBulkEntry {H : Type} : Lit × DataW H → Nat
  | (.string bytes, d) => bytes.length + uptoBulk d + 1
  | (_, d) => uptoBulk d + 1
 end
def uptoSmall : (H : Type) → List (DataW H) → Bool := fun _ ds => decide (uptoBulkAll ds ≤ 1048576)
def OpenSpec.upto (s : _root_.Go.ChangeSpec) : _root_.Go.OpenSpec := { _root_.Go.OpenSpec.ofChange s with cond := some uptoSmall }

/-- 'n011_84.FnHexRAgreesWithLeadingDigits', WHERE WHAT IT READS IS OF BULK AT MOST 1048576: true; the input reads as it did. -/
def fnHexRAgreesWithLeadingDigitsUptoRow : OpenClaim := { program := "ytnlohfbmknedhaa", sum := "56900fae1802d08475e66c70dcb93f94294f9ebd0068f590511f0ed79db31352", func := "github.com/evanw/esbuild/n011_84.FnHexRAgreesWithLeadingDigits", spec := "fnHexRAgreesWithLeadingDigits", plainKeys := false, apart := false, narrowed := true }
def FnHexRAgreesWithLeadingDigitsUptoSaid : Prop := fnHexRAgreesWithLeadingDigitsUptoRow.holds Try.pinned (OpenSpec.upto fnHexRAgreesWithLeadingDigitsSpec)

/-- 'n011_283.FnPeekAnswersTheCurrentKind', WHERE WHAT IT READS IS OF BULK AT MOST 1048576: true; the input reads as it did. -/
def fnPeekAnswersTheCurrentKindUptoRow : OpenClaim := { program := "ytnlohfbmknedhaa", sum := "56900fae1802d08475e66c70dcb93f94294f9ebd0068f590511f0ed79db31352", func := "github.com/evanw/esbuild/n011_283.FnPeekAnswersTheCurrentKind", spec := "fnPeekAnswersTheCurrentKind", plainKeys := false, apart := false, narrowed := true }
def FnPeekAnswersTheCurrentKindUptoSaid : Prop := fnPeekAnswersTheCurrentKindUptoRow.holds Try.pinned (OpenSpec.upto fnPeekAnswersTheCurrentKindSpec)

/-- 'n011_99.FnParseCombinatorGreedyRun', WHERE WHAT IT READS IS OF BULK AT MOST 1048576: true; the input reads as it did. -/
def fnParseCombinatorGreedyRunUptoRow : OpenClaim := { program := "ytnlohfbmknedhaa", sum := "56900fae1802d08475e66c70dcb93f94294f9ebd0068f590511f0ed79db31352", func := "github.com/evanw/esbuild/n011_99.FnParseCombinatorGreedyRun", spec := "fnParseCombinatorGreedyRun", plainKeys := false, apart := false, narrowed := true }
def FnParseCombinatorGreedyRunUptoSaid : Prop := fnParseCombinatorGreedyRunUptoRow.holds Try.pinned (OpenSpec.upto fnParseCombinatorGreedyRunSpec)

/-- 'n011_256.FnAnalyzeLeadingAmpersandDeclContextOnlyDemotes', WHERE WHAT IT READS IS OF BULK AT MOST 1048576: true; the input reads as it did. -/
def fnAnalyzeLeadingAmpersandDeclContextOnlyDemotesUptoRow : OpenClaim := { program := "ytnlohfbmknedhaa", sum := "56900fae1802d08475e66c70dcb93f94294f9ebd0068f590511f0ed79db31352", func := "github.com/evanw/esbuild/n011_256.FnAnalyzeLeadingAmpersandDeclContextOnlyDemotes", spec := "fnAnalyzeLeadingAmpersandDeclContextOnlyDemotes", recurses := true, plainKeys := false, apart := false, narrowed := true }
def FnAnalyzeLeadingAmpersandDeclContextOnlyDemotesUptoSaid : Prop := fnAnalyzeLeadingAmpersandDeclContextOnlyDemotesUptoRow.holds Try.pinned (OpenSpec.upto fnAnalyzeLeadingAmpersandDeclContextOnlyDemotesSpec)

/-- 'n011_283.FnRawOfEatenTokensRebuildsTheSource', WHERE WHAT IT READS IS OF BULK AT MOST 1048576: true; the input reads as it did. -/
def fnRawOfEatenTokensRebuildsTheSourceUptoRow : OpenClaim := { program := "ytnlohfbmknedhaa", sum := "56900fae1802d08475e66c70dcb93f94294f9ebd0068f590511f0ed79db31352", func := "github.com/evanw/esbuild/n011_283.FnRawOfEatenTokensRebuildsTheSource", spec := "fnRawOfEatenTokensRebuildsTheSource", plainKeys := false, apart := false, narrowed := true }
def FnRawOfEatenTokensRebuildsTheSourceUptoSaid : Prop := fnRawOfEatenTokensRebuildsTheSourceUptoRow.holds Try.pinned (OpenSpec.upto fnRawOfEatenTokensRebuildsTheSourceSpec)

end Rows
end Go.Proofs.Ytnlohfbmknedhaa
