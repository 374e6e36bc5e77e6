/-
  No cell of these rows narrows 'for every input' (looked for: loops, veiled, ifaces, maps, wideKeys, modest, calm, conditions, laid).
  DERIVED. THE GIVEN ROWS OF THIS SEAT. 5 by the template 'for every input the law returns true; each argument reads behind the call as it read before'; 0 by the template 'total and deterministic' (their statements: YtecdhjhobjagkaaTotals.lean).
  GIVEN WITH THE SEED: the statements are not yours to turn. If you find one false, say at which input.
  Laid BY PROGRAM, IN A SANDBOX (cutbox-rows.mjs): the forced cells as the released guide's own fill.sh prints them over the translation c7d667e9f6551cca… (all of the seat's roots in one cut). By AI agents, Wed Nov 11 2026. No macro, syntax, notation, axiom, sorry.
-/
import Derived.Test.YtecdhjhobjagkaaChecked
import GoSem.Claim
import GoSem.ClaimJoined
import GoSem.ClaimMapViews
import Derived.JoinedTies
import Derived.KernelRfl
namespace Go.Proofs.Ytecdhjhobjagkaa
/- THE CELL 'sum', in the pinned program and in every row, IS THE sha256 OF THE DUMP (.gsa) THAT YtecdhjhobjagkaaProg.lean LOADS. Nothing in Lean hashes anything: it is a label: what it is worth is what the hold of that sum in a sandbox is worth. -/
noncomputable def Try.pinned : Pinned := { name := "ytecdhjhobjagkaa", sum := "c7d667e9f6551cca623c194120e08dec0ffa9ac4637c89b36c37e5a4ff765f95", checked := Try.checked }
namespace Rows
def none {H : Type} : Left H := { results := [], args := [] }

/-- 'n011_267.FnRgbToHwbHueIsNaNExactlyForGrays': WHATEVER THE INPUT: true; the input reads as it did. -/
def fnRgbToHwbHueIsNaNExactlyForGraysSpec : ChangeSpec := { name := "fnRgbToHwbHueIsNaNExactlyForGrays", fn := fun _ => fun
  | [d1, d2, d3] => { results := [.lit (.bool true)], args := [d1, d2, d3] }
  | _ => none }
def fnRgbToHwbHueIsNaNExactlyForGraysRow : OpenClaim := { program := "ytecdhjhobjagkaa", sum := "c7d667e9f6551cca623c194120e08dec0ffa9ac4637c89b36c37e5a4ff765f95", func := "github.com/evanw/esbuild/n011_267.FnRgbToHwbHueIsNaNExactlyForGrays", spec := "fnRgbToHwbHueIsNaNExactlyForGrays", inPlace := ["math.archMax", "math.Float64bits", "math.Float64frombits", "math.archMin"], apart := false }
def FnRgbToHwbHueIsNaNExactlyForGraysSaid : Prop := fnRgbToHwbHueIsNaNExactlyForGraysRow.holds Try.pinned (OpenSpec.ofChange fnRgbToHwbHueIsNaNExactlyForGraysSpec)

/-- ITS FALSE NEIGHBOUR: 'it returns false'. Refute it at one input. -/
def fnRgbToHwbHueIsNaNExactlyForGraysWrong : ChangeSpec := { name := "fnRgbToHwbHueIsNaNExactlyForGrays", fn := fun _ => fun
  | [d1, d2, d3] => { results := [.lit (.bool false)], args := [d1, d2, d3] }
  | _ => none }
def FnRgbToHwbHueIsNaNExactlyForGraysWrongFalsely : Prop := fnRgbToHwbHueIsNaNExactlyForGraysRow.holds Try.pinned (OpenSpec.ofChange fnRgbToHwbHueIsNaNExactlyForGraysWrong)

/-- 'n011_267.FnHwbToRgbHueMultipleOf360Table': WHATEVER THE INPUT: true; the input reads as it did. -/
def fnHwbToRgbHueMultipleOf360TableSpec : ChangeSpec := { name := "fnHwbToRgbHueMultipleOf360Table", fn := fun _ => fun
  | [d1, d2, d3] => { results := [.lit (.bool true)], args := [d1, d2, d3] }
  | _ => none }
def fnHwbToRgbHueMultipleOf360TableRow : OpenClaim := { program := "ytecdhjhobjagkaa", sum := "c7d667e9f6551cca623c194120e08dec0ffa9ac4637c89b36c37e5a4ff765f95", func := "github.com/evanw/esbuild/n011_267.FnHwbToRgbHueMultipleOf360Table", spec := "fnHwbToRgbHueMultipleOf360Table", inPlace := ["math.archFloor", "math.Float64bits", "math.Float64frombits", "math.archTrunc", "math.archMin", "math.archMax"], unfollowed := true, recurses := true, apart := false }
def FnHwbToRgbHueMultipleOf360TableSaid : Prop := fnHwbToRgbHueMultipleOf360TableRow.holds Try.pinned (OpenSpec.ofChange fnHwbToRgbHueMultipleOf360TableSpec)

/-- ITS FALSE NEIGHBOUR: 'it returns false'. Refute it at one input. -/
def fnHwbToRgbHueMultipleOf360TableWrong : ChangeSpec := { name := "fnHwbToRgbHueMultipleOf360Table", fn := fun _ => fun
  | [d1, d2, d3] => { results := [.lit (.bool false)], args := [d1, d2, d3] }
  | _ => none }
def FnHwbToRgbHueMultipleOf360TableWrongFalsely : Prop := fnHwbToRgbHueMultipleOf360TableRow.holds Try.pinned (OpenSpec.ofChange fnHwbToRgbHueMultipleOf360TableWrong)

/-- 'n011_9.FnCompactTokenQuadIsShortest': WHATEVER THE INPUT: true; the input reads as it did. -/
def fnCompactTokenQuadIsShortestSpec : ChangeSpec := { name := "fnCompactTokenQuadIsShortest", fn := fun _ => fun
  | [d1, d2, d3, d4, d5] => { results := [.lit (.bool true)], args := [d1, d2, d3, d4, d5] }
  | _ => none }
def fnCompactTokenQuadIsShortestRow : OpenClaim := { program := "ytecdhjhobjagkaa", sum := "c7d667e9f6551cca623c194120e08dec0ffa9ac4637c89b36c37e5a4ff765f95", func := "github.com/evanw/esbuild/n011_9.FnCompactTokenQuadIsShortest", spec := "fnCompactTokenQuadIsShortest", recurses := true, apart := false }
def FnCompactTokenQuadIsShortestSaid : Prop := fnCompactTokenQuadIsShortestRow.holds Try.pinned (OpenSpec.ofChange fnCompactTokenQuadIsShortestSpec)

/-- ITS FALSE NEIGHBOUR: 'it returns false'. Refute it at one input. -/
def fnCompactTokenQuadIsShortestWrong : ChangeSpec := { name := "fnCompactTokenQuadIsShortest", fn := fun _ => fun
  | [d1, d2, d3, d4, d5] => { results := [.lit (.bool false)], args := [d1, d2, d3, d4, d5] }
  | _ => none }
def FnCompactTokenQuadIsShortestWrongFalsely : Prop := fnCompactTokenQuadIsShortestRow.holds Try.pinned (OpenSpec.ofChange fnCompactTokenQuadIsShortestWrong)

/-- 'n011_9.FnScanMediaValueRescansAsItself': WHATEVER THE INPUT: true; the input reads as it did. -/
def fnScanMediaValueRescansAsItselfSpec : ChangeSpec := { name := "fnScanMediaValueRescansAsItself", fn := fun _ => fun
  | [d1, d2, d3] => { results := [.lit (.bool true)], args := [d1, d2, d3] }
  | _ => none }
def fnScanMediaValueRescansAsItselfRow : OpenClaim := { program := "ytecdhjhobjagkaa", sum := "c7d667e9f6551cca623c194120e08dec0ffa9ac4637c89b36c37e5a4ff765f95", func := "github.com/evanw/esbuild/n011_9.FnScanMediaValueRescansAsItself", spec := "fnScanMediaValueRescansAsItself", apart := false }
def FnScanMediaValueRescansAsItselfSaid : Prop := fnScanMediaValueRescansAsItselfRow.holds Try.pinned (OpenSpec.ofChange fnScanMediaValueRescansAsItselfSpec)

/-- ITS FALSE NEIGHBOUR: 'it returns false'. Refute it at one input. -/
def fnScanMediaValueRescansAsItselfWrong : ChangeSpec := { name := "fnScanMediaValueRescansAsItself", fn := fun _ => fun
  | [d1, d2, d3] => { results := [.lit (.bool false)], args := [d1, d2, d3] }
  | _ => none }
def FnScanMediaValueRescansAsItselfWrongFalsely : Prop := fnScanMediaValueRescansAsItselfRow.holds Try.pinned (OpenSpec.ofChange fnScanMediaValueRescansAsItselfWrong)

/-- 'n011_9.FnCompactTokenQuadIsALosslessPrefix': WHATEVER THE INPUT: true; the input reads as it did. -/
def fnCompactTokenQuadIsALosslessPrefixSpec : ChangeSpec := { name := "fnCompactTokenQuadIsALosslessPrefix", fn := fun _ => fun
  | [d1, d2, d3, d4, d5] => { results := [.lit (.bool true)], args := [d1, d2, d3, d4, d5] }
  | _ => none }
def fnCompactTokenQuadIsALosslessPrefixRow : OpenClaim := { program := "ytecdhjhobjagkaa", sum := "c7d667e9f6551cca623c194120e08dec0ffa9ac4637c89b36c37e5a4ff765f95", func := "github.com/evanw/esbuild/n011_9.FnCompactTokenQuadIsALosslessPrefix", spec := "fnCompactTokenQuadIsALosslessPrefix", recurses := true, apart := false }
def FnCompactTokenQuadIsALosslessPrefixSaid : Prop := fnCompactTokenQuadIsALosslessPrefixRow.holds Try.pinned (OpenSpec.ofChange fnCompactTokenQuadIsALosslessPrefixSpec)

/-- ITS FALSE NEIGHBOUR: 'it returns false'. Refute it at one input. -/
def fnCompactTokenQuadIsALosslessPrefixWrong : ChangeSpec := { name := "fnCompactTokenQuadIsALosslessPrefix", fn := fun _ => fun
  | [d1, d2, d3, d4, d5] => { results := [.lit (.bool false)], args := [d1, d2, d3, d4, d5] }
  | _ => none }
def FnCompactTokenQuadIsALosslessPrefixWrongFalsely : Prop := fnCompactTokenQuadIsALosslessPrefixRow.holds Try.pinned (OpenSpec.ofChange fnCompactTokenQuadIsALosslessPrefixWrong)

/- THE SECOND FORM. 'bulk': how many values and letters a reading holds, each counted each time it is reached (what is shared counts as often as it is met; a slice's spare places count too). A statement '..UptoSaid' is the law's where the arguments, and the package variables that the reading takes, are together of bulk at most 1048576: NARROWER than '..Said'. Prove '..Said' where nothing that the law and all that it calls make is longer than what came in: it says more and counts as full. Else prove '..UptoSaid'. A law counts once. -/
mutual
def uptoBulk {H : Type} : DataW H → Nat
  | .lit (.string bytes) => bytes.length + 1
  | .lit _ => 1
  | .nil => 1
  | .ptr d => uptoBulk d + 1
  | .slice elems spare => uptoBulkAll elems + uptoBulkAll spare + 1
  | .agg parts => uptoBulkAll parts + 1
  | .iface _ d => uptoBulk d + 1
  | .map entries => uptoBulkEntries entries + 1
  | .held _ => 1
def uptoBulkAll {H : Type} : List (DataW H) → Nat
  | [] => 0
  | d :: r => uptoBulk d + uptoBulkAll r
def uptoBulkEntries {H : Type} : List (Lit × DataW H) → Nat
  | [] => 0
  | x :: r => uptoBulkEntry x + uptoBulkEntries r
def uptoBulkEntry {H : Type} : Lit × DataW H → Nat
  | (.string bytes, d) => bytes.length + uptoBulk d + 1
  | (_, d) => uptoBulk d + 1
 end
def uptoSmall : (H : Type) → List (DataW H) → Bool := fun _ ds => decide (uptoBulkAll ds ≤ 1048576)
def OpenSpec.upto (s : _root_.Go.ChangeSpec) : _root_.Go.OpenSpec := { _root_.Go.OpenSpec.ofChange s with cond := some uptoSmall }

/-- 'n011_267.FnRgbToHwbHueIsNaNExactlyForGrays', WHERE WHAT IT READS IS OF BULK AT MOST 1048576: true; the input reads as it did. -/
def fnRgbToHwbHueIsNaNExactlyForGraysUptoRow : OpenClaim := { program := "ytecdhjhobjagkaa", sum := "c7d667e9f6551cca623c194120e08dec0ffa9ac4637c89b36c37e5a4ff765f95", func := "github.com/evanw/esbuild/n011_267.FnRgbToHwbHueIsNaNExactlyForGrays", spec := "fnRgbToHwbHueIsNaNExactlyForGrays", inPlace := ["math.archMax", "math.Float64bits", "math.Float64frombits", "math.archMin"], apart := false, narrowed := true }
def FnRgbToHwbHueIsNaNExactlyForGraysUptoSaid : Prop := fnRgbToHwbHueIsNaNExactlyForGraysUptoRow.holds Try.pinned (OpenSpec.upto fnRgbToHwbHueIsNaNExactlyForGraysSpec)

/-- 'n011_267.FnHwbToRgbHueMultipleOf360Table', WHERE WHAT IT READS IS OF BULK AT MOST 1048576: true; the input reads as it did. -/
def fnHwbToRgbHueMultipleOf360TableUptoRow : OpenClaim := { program := "ytecdhjhobjagkaa", sum := "c7d667e9f6551cca623c194120e08dec0ffa9ac4637c89b36c37e5a4ff765f95", func := "github.com/evanw/esbuild/n011_267.FnHwbToRgbHueMultipleOf360Table", spec := "fnHwbToRgbHueMultipleOf360Table", inPlace := ["math.archFloor", "math.Float64bits", "math.Float64frombits", "math.archTrunc", "math.archMin", "math.archMax"], unfollowed := true, recurses := true, apart := false, narrowed := true }
def FnHwbToRgbHueMultipleOf360TableUptoSaid : Prop := fnHwbToRgbHueMultipleOf360TableUptoRow.holds Try.pinned (OpenSpec.upto fnHwbToRgbHueMultipleOf360TableSpec)

/-- 'n011_9.FnCompactTokenQuadIsShortest', WHERE WHAT IT READS IS OF BULK AT MOST 1048576: true; the input reads as it did. -/
def fnCompactTokenQuadIsShortestUptoRow : OpenClaim := { program := "ytecdhjhobjagkaa", sum := "c7d667e9f6551cca623c194120e08dec0ffa9ac4637c89b36c37e5a4ff765f95", func := "github.com/evanw/esbuild/n011_9.FnCompactTokenQuadIsShortest", spec := "fnCompactTokenQuadIsShortest", recurses := true, apart := false, narrowed := true }
def FnCompactTokenQuadIsShortestUptoSaid : Prop := fnCompactTokenQuadIsShortestUptoRow.holds Try.pinned (OpenSpec.upto fnCompactTokenQuadIsShortestSpec)

/-- 'n011_9.FnScanMediaValueRescansAsItself', WHERE WHAT IT READS IS OF BULK AT MOST 1048576: true; the input reads as it did. -/
def fnScanMediaValueRescansAsItselfUptoRow : OpenClaim := { program := "ytecdhjhobjagkaa", sum := "c7d667e9f6551cca623c194120e08dec0ffa9ac4637c89b36c37e5a4ff765f95", func := "github.com/evanw/esbuild/n011_9.FnScanMediaValueRescansAsItself", spec := "fnScanMediaValueRescansAsItself", apart := false, narrowed := true }
def FnScanMediaValueRescansAsItselfUptoSaid : Prop := fnScanMediaValueRescansAsItselfUptoRow.holds Try.pinned (OpenSpec.upto fnScanMediaValueRescansAsItselfSpec)

/-- 'n011_9.FnCompactTokenQuadIsALosslessPrefix', WHERE WHAT IT READS IS OF BULK AT MOST 1048576: true; the input reads as it did. -/
def fnCompactTokenQuadIsALosslessPrefixUptoRow : OpenClaim := { program := "ytecdhjhobjagkaa", sum := "c7d667e9f6551cca623c194120e08dec0ffa9ac4637c89b36c37e5a4ff765f95", func := "github.com/evanw/esbuild/n011_9.FnCompactTokenQuadIsALosslessPrefix", spec := "fnCompactTokenQuadIsALosslessPrefix", recurses := true, apart := false, narrowed := true }
def FnCompactTokenQuadIsALosslessPrefixUptoSaid : Prop := fnCompactTokenQuadIsALosslessPrefixUptoRow.holds Try.pinned (OpenSpec.upto fnCompactTokenQuadIsALosslessPrefixSpec)

end Rows
end Go.Proofs.Ytecdhjhobjagkaa
