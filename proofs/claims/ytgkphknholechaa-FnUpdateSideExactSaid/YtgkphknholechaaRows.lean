/-
  No cell of these rows narrows 'for every input' (looked for: loops, veiled, ifaces, maps, wideKeys, modest, calm, conditions, laid).
  DERIVED. THE GIVEN ROWS OF THIS SEAT. 5 by the template 'for every input the law returns true; each argument reads behind the call as it read before'; 0 by the template 'total and deterministic' (their statements: YtgkphknholechaaTotals.lean).
  GIVEN WITH THE SEED: the statements are not yours to turn. If you find one false, say at which input.
  Laid BY PROGRAM, IN A SANDBOX (cutbox-rows.mjs): the forced cells as the released guide's own fill.sh prints them over the translation 1aaff75783383bee… (all of the seat's roots in one cut). By AI agents, Wed Nov 11 2026. No macro, syntax, notation, axiom, sorry.
-/
import Derived.Test.YtgkphknholechaaChecked
import GoSem.Claim
import GoSem.ClaimJoined
import GoSem.ClaimMapViews
import Derived.JoinedTies
import Derived.KernelRfl
namespace Go.Proofs.Ytgkphknholechaa
/- THE CELL 'sum', in the pinned program and in every row, IS THE sha256 OF THE DUMP (.gsa) THAT YtgkphknholechaaProg.lean LOADS. Nothing in Lean hashes anything: it is a label: what it is worth is what the hold of that sum in a sandbox is worth. -/
noncomputable def Try.pinned : Pinned := { name := "ytgkphknholechaa", sum := "1aaff75783383bee8116658935c9ed3b879d3aa247f2c66fba60b4285ccbfba9", checked := Try.checked }
namespace Rows
def none {H : Type} : Left H := { results := [], args := [] }

/-- 'n011_71.FnNegateChainOfValueCancelsInPairs': WHATEVER THE INPUT: true; the input reads as it did. -/
def fnNegateChainOfValueCancelsInPairsSpec : ChangeSpec := { name := "fnNegateChainOfValueCancelsInPairs", fn := fun _ => fun
  | [d] => { results := [.lit (.bool true)], args := [d] }
  | _ => none }
def fnNegateChainOfValueCancelsInPairsRow : OpenClaim := { program := "ytgkphknholechaa", sum := "1aaff75783383bee8116658935c9ed3b879d3aa247f2c66fba60b4285ccbfba9", func := "github.com/evanw/esbuild/n011_71.FnNegateChainOfValueCancelsInPairs", spec := "fnNegateChainOfValueCancelsInPairs", unfollowed := true, recurses := true, apart := false }
def FnNegateChainOfValueCancelsInPairsSaid : Prop := fnNegateChainOfValueCancelsInPairsRow.holds Try.pinned (OpenSpec.ofChange fnNegateChainOfValueCancelsInPairsSpec)

/-- ITS FALSE NEIGHBOUR: 'it returns false'. Refute it at one input. -/
def fnNegateChainOfValueCancelsInPairsWrong : ChangeSpec := { name := "fnNegateChainOfValueCancelsInPairs", fn := fun _ => fun
  | [d] => { results := [.lit (.bool false)], args := [d] }
  | _ => none }
def FnNegateChainOfValueCancelsInPairsWrongFalsely : Prop := fnNegateChainOfValueCancelsInPairsRow.holds Try.pinned (OpenSpec.ofChange fnNegateChainOfValueCancelsInPairsWrong)

/-- 'n011_44.FnCalcValueIdempotentAndFreeOfFlags': WHATEVER THE INPUT: true; the input reads as it did. -/
def fnCalcValueIdempotentAndFreeOfFlagsSpec : ChangeSpec := { name := "fnCalcValueIdempotentAndFreeOfFlags", fn := fun _ => fun
  | [d1, d2, d3, d4, d5, d6, d7, d8, d9, d10, d11, d12] => { results := [.lit (.bool true)], args := [d1, d2, d3, d4, d5, d6, d7, d8, d9, d10, d11, d12] }
  | _ => none }
def fnCalcValueIdempotentAndFreeOfFlagsRow : OpenClaim := { program := "ytgkphknholechaa", sum := "1aaff75783383bee8116658935c9ed3b879d3aa247f2c66fba60b4285ccbfba9", func := "github.com/evanw/esbuild/n011_44.FnCalcValueIdempotentAndFreeOfFlags", spec := "fnCalcValueIdempotentAndFreeOfFlags", apart := false }
def FnCalcValueIdempotentAndFreeOfFlagsSaid : Prop := fnCalcValueIdempotentAndFreeOfFlagsRow.holds Try.pinned (OpenSpec.ofChange fnCalcValueIdempotentAndFreeOfFlagsSpec)

/-- ITS FALSE NEIGHBOUR: 'it returns false'. Refute it at one input. -/
def fnCalcValueIdempotentAndFreeOfFlagsWrong : ChangeSpec := { name := "fnCalcValueIdempotentAndFreeOfFlags", fn := fun _ => fun
  | [d1, d2, d3, d4, d5, d6, d7, d8, d9, d10, d11, d12] => { results := [.lit (.bool false)], args := [d1, d2, d3, d4, d5, d6, d7, d8, d9, d10, d11, d12] }
  | _ => none }
def FnCalcValueIdempotentAndFreeOfFlagsWrongFalsely : Prop := fnCalcValueIdempotentAndFreeOfFlagsRow.holds Try.pinned (OpenSpec.ofChange fnCalcValueIdempotentAndFreeOfFlagsWrong)

/-- 'n011_282.FnIsSafeWithCaseTable': WHATEVER THE INPUT: true; the input reads as it did. -/
def fnIsSafeWithCaseTableSpec : ChangeSpec := { name := "fnIsSafeWithCaseTable", fn := fun _ => fun
  | [d1, d2, d3, d4] => { results := [.lit (.bool true)], args := [d1, d2, d3, d4] }
  | _ => none }
def fnIsSafeWithCaseTableRow : OpenClaim := { program := "ytgkphknholechaa", sum := "1aaff75783383bee8116658935c9ed3b879d3aa247f2c66fba60b4285ccbfba9", func := "github.com/evanw/esbuild/n011_282.FnIsSafeWithCaseTable", spec := "fnIsSafeWithCaseTable", apart := false }
def FnIsSafeWithCaseTableSaid : Prop := fnIsSafeWithCaseTableRow.holds Try.pinned (OpenSpec.ofChange fnIsSafeWithCaseTableSpec)

/-- ITS FALSE NEIGHBOUR: 'it returns false'. Refute it at one input. -/
def fnIsSafeWithCaseTableWrong : ChangeSpec := { name := "fnIsSafeWithCaseTable", fn := fun _ => fun
  | [d1, d2, d3, d4] => { results := [.lit (.bool false)], args := [d1, d2, d3, d4] }
  | _ => none }
def FnIsSafeWithCaseTableWrongFalsely : Prop := fnIsSafeWithCaseTableRow.holds Try.pinned (OpenSpec.ofChange fnIsSafeWithCaseTableWrong)

/-- 'n011_71.FnNegateChainOfNumericFlipsSignByParity': WHATEVER THE INPUT: true; the input reads as it did. -/
def fnNegateChainOfNumericFlipsSignByParitySpec : ChangeSpec := { name := "fnNegateChainOfNumericFlipsSignByParity", fn := fun _ => fun
  | [d1, d2, d3] => { results := [.lit (.bool true)], args := [d1, d2, d3] }
  | _ => none }
def fnNegateChainOfNumericFlipsSignByParityRow : OpenClaim := { program := "ytgkphknholechaa", sum := "1aaff75783383bee8116658935c9ed3b879d3aa247f2c66fba60b4285ccbfba9", func := "github.com/evanw/esbuild/n011_71.FnNegateChainOfNumericFlipsSignByParity", spec := "fnNegateChainOfNumericFlipsSignByParity", unfollowed := true, recurses := true, apart := false }
def FnNegateChainOfNumericFlipsSignByParitySaid : Prop := fnNegateChainOfNumericFlipsSignByParityRow.holds Try.pinned (OpenSpec.ofChange fnNegateChainOfNumericFlipsSignByParitySpec)

/-- ITS FALSE NEIGHBOUR: 'it returns false'. Refute it at one input. -/
def fnNegateChainOfNumericFlipsSignByParityWrong : ChangeSpec := { name := "fnNegateChainOfNumericFlipsSignByParity", fn := fun _ => fun
  | [d1, d2, d3] => { results := [.lit (.bool false)], args := [d1, d2, d3] }
  | _ => none }
def FnNegateChainOfNumericFlipsSignByParityWrongFalsely : Prop := fnNegateChainOfNumericFlipsSignByParityRow.holds Try.pinned (OpenSpec.ofChange fnNegateChainOfNumericFlipsSignByParityWrong)

/-- 'n011_282.FnUpdateSideExact': WHATEVER THE INPUT: true; the input reads as it did. -/
def fnUpdateSideExactSpec : ChangeSpec := { name := "fnUpdateSideExact", fn := fun _ => fun
  | [d1, d2, d3, d4, d5, d6, d7, d8, d9, d10] => { results := [.lit (.bool true)], args := [d1, d2, d3, d4, d5, d6, d7, d8, d9, d10] }
  | _ => none }
def fnUpdateSideExactRow : OpenClaim := { program := "ytgkphknholechaa", sum := "1aaff75783383bee8116658935c9ed3b879d3aa247f2c66fba60b4285ccbfba9", func := "github.com/evanw/esbuild/n011_282.FnUpdateSideExact", spec := "fnUpdateSideExact", apart := false }
def FnUpdateSideExactSaid : Prop := fnUpdateSideExactRow.holds Try.pinned (OpenSpec.ofChange fnUpdateSideExactSpec)

/-- ITS FALSE NEIGHBOUR: 'it returns false'. Refute it at one input. -/
def fnUpdateSideExactWrong : ChangeSpec := { name := "fnUpdateSideExact", fn := fun _ => fun
  | [d1, d2, d3, d4, d5, d6, d7, d8, d9, d10] => { results := [.lit (.bool false)], args := [d1, d2, d3, d4, d5, d6, d7, d8, d9, d10] }
  | _ => none }
def FnUpdateSideExactWrongFalsely : Prop := fnUpdateSideExactRow.holds Try.pinned (OpenSpec.ofChange fnUpdateSideExactWrong)

/- THE SECOND FORM. 'bulk': how many values and letters a reading holds, each counted each time it is reached (what is shared counts as often as it is met; a slice's spare places count too). A statement '..UptoSaid' is the law's where the arguments, and the package variables that the reading takes, are together of bulk at most 1048576: NARROWER than '..Said'. Prove '..Said' where nothing that the law and all that it calls make is longer than what came in: it says more and counts as full. Else prove '..UptoSaid'. A law counts once. -/
mutual
def uptoBulk {H : Type} : DataW H → Nat
  | .lit (.string bytes) => bytes.length + 1
  | .lit _ => 1
  | .nil => 1
  | .ptr d => uptoBulk d + 1
  | .slice elems spare => uptoBulkAll elems + uptoBulkAll spare + 1
  | .agg parts => uptoBulkAll parts + 1
  | .iface _ d => uptoBulk d + 1
  | .map entries => uptoBulkEntries entries + 1
  | .held _ => 1
def uptoBulkAll {H : Type} : List (DataW H) → Nat
  | [] => 0
  | d :: r => uptoBulk d + uptoBulkAll r
def uptoBulkEntries {H : Type} : List (Lit × DataW H) → Nat
  | [] => 0
  | x :: r => uptoBulkEntry x + uptoBulkEntries r
def uptoBulkEntry {H : Type} : Lit × DataW H → Nat
  | (.string bytes, d) => bytes.length + uptoBulk d + 1
  | (_, d) => uptoBulk d + 1
 end
def uptoSmall : (H : Type) → List (DataW H) → Bool := fun _ ds => decide (uptoBulkAll ds ≤ 1048576)
def OpenSpec.upto (s : _root_.Go.ChangeSpec) : _root_.Go.OpenSpec := { _root_.Go.OpenSpec.ofChange s with cond := some uptoSmall }

/-- 'n011_71.FnNegateChainOfValueCancelsInPairs', WHERE WHAT IT READS IS OF BULK AT MOST 1048576: true; the input reads as it did. -/
def fnNegateChainOfValueCancelsInPairsUptoRow : OpenClaim := { program := "ytgkphknholechaa", sum := "1aaff75783383bee8116658935c9ed3b879d3aa247f2c66fba60b4285ccbfba9", func := "github.com/evanw/esbuild/n011_71.FnNegateChainOfValueCancelsInPairs", spec := "fnNegateChainOfValueCancelsInPairs", unfollowed := true, recurses := true, apart := false, narrowed := true }
def FnNegateChainOfValueCancelsInPairsUptoSaid : Prop := fnNegateChainOfValueCancelsInPairsUptoRow.holds Try.pinned (OpenSpec.upto fnNegateChainOfValueCancelsInPairsSpec)

/-- 'n011_44.FnCalcValueIdempotentAndFreeOfFlags', WHERE WHAT IT READS IS OF BULK AT MOST 1048576: true; the input reads as it did. -/
def fnCalcValueIdempotentAndFreeOfFlagsUptoRow : OpenClaim := { program := "ytgkphknholechaa", sum := "1aaff75783383bee8116658935c9ed3b879d3aa247f2c66fba60b4285ccbfba9", func := "github.com/evanw/esbuild/n011_44.FnCalcValueIdempotentAndFreeOfFlags", spec := "fnCalcValueIdempotentAndFreeOfFlags", apart := false, narrowed := true }
def FnCalcValueIdempotentAndFreeOfFlagsUptoSaid : Prop := fnCalcValueIdempotentAndFreeOfFlagsUptoRow.holds Try.pinned (OpenSpec.upto fnCalcValueIdempotentAndFreeOfFlagsSpec)

/-- 'n011_282.FnIsSafeWithCaseTable', WHERE WHAT IT READS IS OF BULK AT MOST 1048576: true; the input reads as it did. -/
def fnIsSafeWithCaseTableUptoRow : OpenClaim := { program := "ytgkphknholechaa", sum := "1aaff75783383bee8116658935c9ed3b879d3aa247f2c66fba60b4285ccbfba9", func := "github.com/evanw/esbuild/n011_282.FnIsSafeWithCaseTable", spec := "fnIsSafeWithCaseTable", apart := false, narrowed := true }
def FnIsSafeWithCaseTableUptoSaid : Prop := fnIsSafeWithCaseTableUptoRow.holds Try.pinned (OpenSpec.upto fnIsSafeWithCaseTableSpec)

/-- 'n011_71.FnNegateChainOfNumericFlipsSignByParity', WHERE WHAT IT READS IS OF BULK AT MOST 1048576: true; the input reads as it did. -/
def fnNegateChainOfNumericFlipsSignByParityUptoRow : OpenClaim := { program := "ytgkphknholechaa", sum := "1aaff75783383bee8116658935c9ed3b879d3aa247f2c66fba60b4285ccbfba9", func := "github.com/evanw/esbuild/n011_71.FnNegateChainOfNumericFlipsSignByParity", spec := "fnNegateChainOfNumericFlipsSignByParity", unfollowed := true, recurses := true, apart := false, narrowed := true }
def FnNegateChainOfNumericFlipsSignByParityUptoSaid : Prop := fnNegateChainOfNumericFlipsSignByParityUptoRow.holds Try.pinned (OpenSpec.upto fnNegateChainOfNumericFlipsSignByParitySpec)

/-- 'n011_282.FnUpdateSideExact', WHERE WHAT IT READS IS OF BULK AT MOST 1048576: true; the input reads as it did. -/
def fnUpdateSideExactUptoRow : OpenClaim := { program := "ytgkphknholechaa", sum := "1aaff75783383bee8116658935c9ed3b879d3aa247f2c66fba60b4285ccbfba9", func := "github.com/evanw/esbuild/n011_282.FnUpdateSideExact", spec := "fnUpdateSideExact", apart := false, narrowed := true }
def FnUpdateSideExactUptoSaid : Prop := fnUpdateSideExactUptoRow.holds Try.pinned (OpenSpec.upto fnUpdateSideExactSpec)

end Rows
end Go.Proofs.Ytgkphknholechaa
