/-
  No cell of these rows narrows 'for every input' (looked for: loops, veiled, ifaces, maps, wideKeys, modest, calm, conditions, laid).
  DERIVED. THE GIVEN ROWS OF THIS SEAT. 12 by the template 'for every input the law returns true; each argument reads behind the call as it read before'; 0 by the template 'total and deterministic' (their statements: YtmomchpfllbgjaaTotals.lean).
  GIVEN WITH THE SEED: the statements are not yours to turn. If you find one false, say at which input.
  Laid BY PROGRAM, IN A SANDBOX (cutbox-rows.mjs): the forced cells as the released guide's own fill.sh prints them over the translation b72cdbbd00c9df98… (all of the seat's roots in one cut). By AI agents, Wed Nov 11 2026. No macro, syntax, notation, axiom, sorry.
-/
import Derived.Test.YtmomchpfllbgjaaChecked
import GoSem.Claim
import GoSem.ClaimJoined
import GoSem.ClaimMapViews
import Derived.JoinedTies
import Derived.KernelRfl
namespace Go.Proofs.Ytmomchpfllbgjaa
/- THE CELL 'sum', in the pinned program and in every row, IS THE sha256 OF THE DUMP (.gsa) THAT YtmomchpfllbgjaaProg.lean LOADS. Nothing in Lean hashes anything: it is a label: what it is worth is what the hold of that sum in a sandbox is worth. -/
noncomputable def Try.pinned : Pinned := { name := "ytmomchpfllbgjaa", sum := "b72cdbbd00c9df98a4d12b45e950a830e1920de16419059a88f8dce4d06897c9", checked := Try.checked }
namespace Rows
def none {H : Type} : Left H := { results := [], args := [] }

/-- 'n011_70.FnD50ToD65MapsWhiteToWhite': WHATEVER THE INPUT: true; the input reads as it did. -/
def fnD50ToD65MapsWhiteToWhiteSpec : ChangeSpec := { name := "fnD50ToD65MapsWhiteToWhite", fn := fun _ => fun
  | [d] => { results := [.lit (.bool true)], args := [d] }
  | _ => none }
def fnD50ToD65MapsWhiteToWhiteRow : OpenClaim := { program := "ytmomchpfllbgjaa", sum := "b72cdbbd00c9df98a4d12b45e950a830e1920de16419059a88f8dce4d06897c9", func := "github.com/evanw/esbuild/n011_70.FnD50ToD65MapsWhiteToWhite", spec := "fnD50ToD65MapsWhiteToWhite", apart := false }
def FnD50ToD65MapsWhiteToWhiteSaid : Prop := fnD50ToD65MapsWhiteToWhiteRow.holds Try.pinned (OpenSpec.ofChange fnD50ToD65MapsWhiteToWhiteSpec)

/-- ITS FALSE NEIGHBOUR: 'it returns false'. Refute it at one input. -/
def fnD50ToD65MapsWhiteToWhiteWrong : ChangeSpec := { name := "fnD50ToD65MapsWhiteToWhite", fn := fun _ => fun
  | [d] => { results := [.lit (.bool false)], args := [d] }
  | _ => none }
def FnD50ToD65MapsWhiteToWhiteWrongFalsely : Prop := fnD50ToD65MapsWhiteToWhiteRow.holds Try.pinned (OpenSpec.ofChange fnD50ToD65MapsWhiteToWhiteWrong)

/-- 'n011_70.FnXyzToLin2020MapsD65WhiteToGray': WHATEVER THE INPUT: true; the input reads as it did. -/
def fnXyzToLin2020MapsD65WhiteToGraySpec : ChangeSpec := { name := "fnXyzToLin2020MapsD65WhiteToGray", fn := fun _ => fun
  | [d] => { results := [.lit (.bool true)], args := [d] }
  | _ => none }
def fnXyzToLin2020MapsD65WhiteToGrayRow : OpenClaim := { program := "ytmomchpfllbgjaa", sum := "b72cdbbd00c9df98a4d12b45e950a830e1920de16419059a88f8dce4d06897c9", func := "github.com/evanw/esbuild/n011_70.FnXyzToLin2020MapsD65WhiteToGray", spec := "fnXyzToLin2020MapsD65WhiteToGray", apart := false }
def FnXyzToLin2020MapsD65WhiteToGraySaid : Prop := fnXyzToLin2020MapsD65WhiteToGrayRow.holds Try.pinned (OpenSpec.ofChange fnXyzToLin2020MapsD65WhiteToGraySpec)

/-- ITS FALSE NEIGHBOUR: 'it returns false'. Refute it at one input. -/
def fnXyzToLin2020MapsD65WhiteToGrayWrong : ChangeSpec := { name := "fnXyzToLin2020MapsD65WhiteToGray", fn := fun _ => fun
  | [d] => { results := [.lit (.bool false)], args := [d] }
  | _ => none }
def FnXyzToLin2020MapsD65WhiteToGrayWrongFalsely : Prop := fnXyzToLin2020MapsD65WhiteToGrayRow.holds Try.pinned (OpenSpec.ofChange fnXyzToLin2020MapsD65WhiteToGrayWrong)

/-- 'n011_83.FnLinProphotoToXyzMapsEqualChannelsToD50White': WHATEVER THE INPUT: true; the input reads as it did. -/
def fnLinProphotoToXyzMapsEqualChannelsToD50WhiteSpec : ChangeSpec := { name := "fnLinProphotoToXyzMapsEqualChannelsToD50White", fn := fun _ => fun
  | [d] => { results := [.lit (.bool true)], args := [d] }
  | _ => none }
def fnLinProphotoToXyzMapsEqualChannelsToD50WhiteRow : OpenClaim := { program := "ytmomchpfllbgjaa", sum := "b72cdbbd00c9df98a4d12b45e950a830e1920de16419059a88f8dce4d06897c9", func := "github.com/evanw/esbuild/n011_83.FnLinProphotoToXyzMapsEqualChannelsToD50White", spec := "fnLinProphotoToXyzMapsEqualChannelsToD50White", apart := false }
def FnLinProphotoToXyzMapsEqualChannelsToD50WhiteSaid : Prop := fnLinProphotoToXyzMapsEqualChannelsToD50WhiteRow.holds Try.pinned (OpenSpec.ofChange fnLinProphotoToXyzMapsEqualChannelsToD50WhiteSpec)

/-- ITS FALSE NEIGHBOUR: 'it returns false'. Refute it at one input. -/
def fnLinProphotoToXyzMapsEqualChannelsToD50WhiteWrong : ChangeSpec := { name := "fnLinProphotoToXyzMapsEqualChannelsToD50White", fn := fun _ => fun
  | [d] => { results := [.lit (.bool false)], args := [d] }
  | _ => none }
def FnLinProphotoToXyzMapsEqualChannelsToD50WhiteWrongFalsely : Prop := fnLinProphotoToXyzMapsEqualChannelsToD50WhiteRow.holds Try.pinned (OpenSpec.ofChange fnLinProphotoToXyzMapsEqualChannelsToD50WhiteWrong)

/-- 'n011_62.FnLinSrgbToXyzInvertedByXyzToLinSrgb': WHATEVER THE INPUT: true; the input reads as it did. -/
def fnLinSrgbToXyzInvertedByXyzToLinSrgbSpec : ChangeSpec := { name := "fnLinSrgbToXyzInvertedByXyzToLinSrgb", fn := fun _ => fun
  | [d1, d2, d3] => { results := [.lit (.bool true)], args := [d1, d2, d3] }
  | _ => none }
def fnLinSrgbToXyzInvertedByXyzToLinSrgbRow : OpenClaim := { program := "ytmomchpfllbgjaa", sum := "b72cdbbd00c9df98a4d12b45e950a830e1920de16419059a88f8dce4d06897c9", func := "github.com/evanw/esbuild/n011_62.FnLinSrgbToXyzInvertedByXyzToLinSrgb", spec := "fnLinSrgbToXyzInvertedByXyzToLinSrgb", apart := false }
def FnLinSrgbToXyzInvertedByXyzToLinSrgbSaid : Prop := fnLinSrgbToXyzInvertedByXyzToLinSrgbRow.holds Try.pinned (OpenSpec.ofChange fnLinSrgbToXyzInvertedByXyzToLinSrgbSpec)

/-- ITS FALSE NEIGHBOUR: 'it returns false'. Refute it at one input. -/
def fnLinSrgbToXyzInvertedByXyzToLinSrgbWrong : ChangeSpec := { name := "fnLinSrgbToXyzInvertedByXyzToLinSrgb", fn := fun _ => fun
  | [d1, d2, d3] => { results := [.lit (.bool false)], args := [d1, d2, d3] }
  | _ => none }
def FnLinSrgbToXyzInvertedByXyzToLinSrgbWrongFalsely : Prop := fnLinSrgbToXyzInvertedByXyzToLinSrgbRow.holds Try.pinned (OpenSpec.ofChange fnLinSrgbToXyzInvertedByXyzToLinSrgbWrong)

/-- 'n011_70.FnD50ToD65RoundTrip': WHATEVER THE INPUT: true; the input reads as it did. -/
def fnD50ToD65RoundTripSpec : ChangeSpec := { name := "fnD50ToD65RoundTrip", fn := fun _ => fun
  | [d1, d2, d3] => { results := [.lit (.bool true)], args := [d1, d2, d3] }
  | _ => none }
def fnD50ToD65RoundTripRow : OpenClaim := { program := "ytmomchpfllbgjaa", sum := "b72cdbbd00c9df98a4d12b45e950a830e1920de16419059a88f8dce4d06897c9", func := "github.com/evanw/esbuild/n011_70.FnD50ToD65RoundTrip", spec := "fnD50ToD65RoundTrip", apart := false }
def FnD50ToD65RoundTripSaid : Prop := fnD50ToD65RoundTripRow.holds Try.pinned (OpenSpec.ofChange fnD50ToD65RoundTripSpec)

/-- ITS FALSE NEIGHBOUR: 'it returns false'. Refute it at one input. -/
def fnD50ToD65RoundTripWrong : ChangeSpec := { name := "fnD50ToD65RoundTrip", fn := fun _ => fun
  | [d1, d2, d3] => { results := [.lit (.bool false)], args := [d1, d2, d3] }
  | _ => none }
def FnD50ToD65RoundTripWrongFalsely : Prop := fnD50ToD65RoundTripRow.holds Try.pinned (OpenSpec.ofChange fnD50ToD65RoundTripWrong)

/-- 'n011_70.FnXyzToLin2020RoundTrip': WHATEVER THE INPUT: true; the input reads as it did. -/
def fnXyzToLin2020RoundTripSpec : ChangeSpec := { name := "fnXyzToLin2020RoundTrip", fn := fun _ => fun
  | [d1, d2, d3] => { results := [.lit (.bool true)], args := [d1, d2, d3] }
  | _ => none }
def fnXyzToLin2020RoundTripRow : OpenClaim := { program := "ytmomchpfllbgjaa", sum := "b72cdbbd00c9df98a4d12b45e950a830e1920de16419059a88f8dce4d06897c9", func := "github.com/evanw/esbuild/n011_70.FnXyzToLin2020RoundTrip", spec := "fnXyzToLin2020RoundTrip", apart := false }
def FnXyzToLin2020RoundTripSaid : Prop := fnXyzToLin2020RoundTripRow.holds Try.pinned (OpenSpec.ofChange fnXyzToLin2020RoundTripSpec)

/-- ITS FALSE NEIGHBOUR: 'it returns false'. Refute it at one input. -/
def fnXyzToLin2020RoundTripWrong : ChangeSpec := { name := "fnXyzToLin2020RoundTrip", fn := fun _ => fun
  | [d1, d2, d3] => { results := [.lit (.bool false)], args := [d1, d2, d3] }
  | _ => none }
def FnXyzToLin2020RoundTripWrongFalsely : Prop := fnXyzToLin2020RoundTripRow.holds Try.pinned (OpenSpec.ofChange fnXyzToLin2020RoundTripWrong)

/-- 'n011_83.FnLinProphotoToXyzIsInverseOfXyzToLinProphoto': WHATEVER THE INPUT: true; the input reads as it did. -/
def fnLinProphotoToXyzIsInverseOfXyzToLinProphotoSpec : ChangeSpec := { name := "fnLinProphotoToXyzIsInverseOfXyzToLinProphoto", fn := fun _ => fun
  | [d1, d2, d3] => { results := [.lit (.bool true)], args := [d1, d2, d3] }
  | _ => none }
def fnLinProphotoToXyzIsInverseOfXyzToLinProphotoRow : OpenClaim := { program := "ytmomchpfllbgjaa", sum := "b72cdbbd00c9df98a4d12b45e950a830e1920de16419059a88f8dce4d06897c9", func := "github.com/evanw/esbuild/n011_83.FnLinProphotoToXyzIsInverseOfXyzToLinProphoto", spec := "fnLinProphotoToXyzIsInverseOfXyzToLinProphoto", apart := false }
def FnLinProphotoToXyzIsInverseOfXyzToLinProphotoSaid : Prop := fnLinProphotoToXyzIsInverseOfXyzToLinProphotoRow.holds Try.pinned (OpenSpec.ofChange fnLinProphotoToXyzIsInverseOfXyzToLinProphotoSpec)

/-- ITS FALSE NEIGHBOUR: 'it returns false'. Refute it at one input. -/
def fnLinProphotoToXyzIsInverseOfXyzToLinProphotoWrong : ChangeSpec := { name := "fnLinProphotoToXyzIsInverseOfXyzToLinProphoto", fn := fun _ => fun
  | [d1, d2, d3] => { results := [.lit (.bool false)], args := [d1, d2, d3] }
  | _ => none }
def FnLinProphotoToXyzIsInverseOfXyzToLinProphotoWrongFalsely : Prop := fnLinProphotoToXyzIsInverseOfXyzToLinProphotoRow.holds Try.pinned (OpenSpec.ofChange fnLinProphotoToXyzIsInverseOfXyzToLinProphotoWrong)

/-- 'n011_62.FnLinSrgbToXyzFromPrimariesAndWhite': WHATEVER THE INPUT: true; the input reads as it did. -/
def fnLinSrgbToXyzFromPrimariesAndWhiteSpec : ChangeSpec := { name := "fnLinSrgbToXyzFromPrimariesAndWhite", fn := fun _ => fun
  | [d1, d2, d3] => { results := [.lit (.bool true)], args := [d1, d2, d3] }
  | _ => none }
def fnLinSrgbToXyzFromPrimariesAndWhiteRow : OpenClaim := { program := "ytmomchpfllbgjaa", sum := "b72cdbbd00c9df98a4d12b45e950a830e1920de16419059a88f8dce4d06897c9", func := "github.com/evanw/esbuild/n011_62.FnLinSrgbToXyzFromPrimariesAndWhite", spec := "fnLinSrgbToXyzFromPrimariesAndWhite", apart := false }
def FnLinSrgbToXyzFromPrimariesAndWhiteSaid : Prop := fnLinSrgbToXyzFromPrimariesAndWhiteRow.holds Try.pinned (OpenSpec.ofChange fnLinSrgbToXyzFromPrimariesAndWhiteSpec)

/-- ITS FALSE NEIGHBOUR: 'it returns false'. Refute it at one input. -/
def fnLinSrgbToXyzFromPrimariesAndWhiteWrong : ChangeSpec := { name := "fnLinSrgbToXyzFromPrimariesAndWhite", fn := fun _ => fun
  | [d1, d2, d3] => { results := [.lit (.bool false)], args := [d1, d2, d3] }
  | _ => none }
def FnLinSrgbToXyzFromPrimariesAndWhiteWrongFalsely : Prop := fnLinSrgbToXyzFromPrimariesAndWhiteRow.holds Try.pinned (OpenSpec.ofChange fnLinSrgbToXyzFromPrimariesAndWhiteWrong)

/-- 'n011_293.FnLinA98RgbToXyzMapsGrayToD65AndIsInverted': WHATEVER THE INPUT: true; the input reads as it did. -/
def fnLinA98RgbToXyzMapsGrayToD65AndIsInvertedSpec : ChangeSpec := { name := "fnLinA98RgbToXyzMapsGrayToD65AndIsInverted", fn := fun _ => fun
  | [d1, d2, d3, d4] => { results := [.lit (.bool true)], args := [d1, d2, d3, d4] }
  | _ => none }
def fnLinA98RgbToXyzMapsGrayToD65AndIsInvertedRow : OpenClaim := { program := "ytmomchpfllbgjaa", sum := "b72cdbbd00c9df98a4d12b45e950a830e1920de16419059a88f8dce4d06897c9", func := "github.com/evanw/esbuild/n011_293.FnLinA98RgbToXyzMapsGrayToD65AndIsInverted", spec := "fnLinA98RgbToXyzMapsGrayToD65AndIsInverted", apart := false }
def FnLinA98RgbToXyzMapsGrayToD65AndIsInvertedSaid : Prop := fnLinA98RgbToXyzMapsGrayToD65AndIsInvertedRow.holds Try.pinned (OpenSpec.ofChange fnLinA98RgbToXyzMapsGrayToD65AndIsInvertedSpec)

/-- ITS FALSE NEIGHBOUR: 'it returns false'. Refute it at one input. -/
def fnLinA98RgbToXyzMapsGrayToD65AndIsInvertedWrong : ChangeSpec := { name := "fnLinA98RgbToXyzMapsGrayToD65AndIsInverted", fn := fun _ => fun
  | [d1, d2, d3, d4] => { results := [.lit (.bool false)], args := [d1, d2, d3, d4] }
  | _ => none }
def FnLinA98RgbToXyzMapsGrayToD65AndIsInvertedWrongFalsely : Prop := fnLinA98RgbToXyzMapsGrayToD65AndIsInvertedRow.holds Try.pinned (OpenSpec.ofChange fnLinA98RgbToXyzMapsGrayToD65AndIsInvertedWrong)

/-- 'n011_293.FnLinA98RgbToXyzIsMonotoneAndKeepsGamutInWhiteBox': WHATEVER THE INPUT: true; the input reads as it did. -/
def fnLinA98RgbToXyzIsMonotoneAndKeepsGamutInWhiteBoxSpec : ChangeSpec := { name := "fnLinA98RgbToXyzIsMonotoneAndKeepsGamutInWhiteBox", fn := fun _ => fun
  | [d1, d2, d3, d4, d5, d6] => { results := [.lit (.bool true)], args := [d1, d2, d3, d4, d5, d6] }
  | _ => none }
def fnLinA98RgbToXyzIsMonotoneAndKeepsGamutInWhiteBoxRow : OpenClaim := { program := "ytmomchpfllbgjaa", sum := "b72cdbbd00c9df98a4d12b45e950a830e1920de16419059a88f8dce4d06897c9", func := "github.com/evanw/esbuild/n011_293.FnLinA98RgbToXyzIsMonotoneAndKeepsGamutInWhiteBox", spec := "fnLinA98RgbToXyzIsMonotoneAndKeepsGamutInWhiteBox", apart := false }
def FnLinA98RgbToXyzIsMonotoneAndKeepsGamutInWhiteBoxSaid : Prop := fnLinA98RgbToXyzIsMonotoneAndKeepsGamutInWhiteBoxRow.holds Try.pinned (OpenSpec.ofChange fnLinA98RgbToXyzIsMonotoneAndKeepsGamutInWhiteBoxSpec)

/-- ITS FALSE NEIGHBOUR: 'it returns false'. Refute it at one input. -/
def fnLinA98RgbToXyzIsMonotoneAndKeepsGamutInWhiteBoxWrong : ChangeSpec := { name := "fnLinA98RgbToXyzIsMonotoneAndKeepsGamutInWhiteBox", fn := fun _ => fun
  | [d1, d2, d3, d4, d5, d6] => { results := [.lit (.bool false)], args := [d1, d2, d3, d4, d5, d6] }
  | _ => none }
def FnLinA98RgbToXyzIsMonotoneAndKeepsGamutInWhiteBoxWrongFalsely : Prop := fnLinA98RgbToXyzIsMonotoneAndKeepsGamutInWhiteBoxRow.holds Try.pinned (OpenSpec.ofChange fnLinA98RgbToXyzIsMonotoneAndKeepsGamutInWhiteBoxWrong)

/-- 'n011_53.FnPremultiplyUndoneByUnpremultiply': WHATEVER THE INPUT: true; the input reads as it did. -/
def fnPremultiplyUndoneByUnpremultiplySpec : ChangeSpec := { name := "fnPremultiplyUndoneByUnpremultiply", fn := fun _ => fun
  | [d1, d2, d3, d4, d5] => { results := [.lit (.bool true)], args := [d1, d2, d3, d4, d5] }
  | _ => none }
def fnPremultiplyUndoneByUnpremultiplyRow : OpenClaim := { program := "ytmomchpfllbgjaa", sum := "b72cdbbd00c9df98a4d12b45e950a830e1920de16419059a88f8dce4d06897c9", func := "github.com/evanw/esbuild/n011_53.FnPremultiplyUndoneByUnpremultiply", spec := "fnPremultiplyUndoneByUnpremultiply", apart := false }
def FnPremultiplyUndoneByUnpremultiplySaid : Prop := fnPremultiplyUndoneByUnpremultiplyRow.holds Try.pinned (OpenSpec.ofChange fnPremultiplyUndoneByUnpremultiplySpec)

/-- ITS FALSE NEIGHBOUR: 'it returns false'. Refute it at one input. -/
def fnPremultiplyUndoneByUnpremultiplyWrong : ChangeSpec := { name := "fnPremultiplyUndoneByUnpremultiply", fn := fun _ => fun
  | [d1, d2, d3, d4, d5] => { results := [.lit (.bool false)], args := [d1, d2, d3, d4, d5] }
  | _ => none }
def FnPremultiplyUndoneByUnpremultiplyWrongFalsely : Prop := fnPremultiplyUndoneByUnpremultiplyRow.holds Try.pinned (OpenSpec.ofChange fnPremultiplyUndoneByUnpremultiplyWrong)

/-- 'n011_53.FnUnpremultiplyUndoneByPremultiply': WHATEVER THE INPUT: true; the input reads as it did. -/
def fnUnpremultiplyUndoneByPremultiplySpec : ChangeSpec := { name := "fnUnpremultiplyUndoneByPremultiply", fn := fun _ => fun
  | [d1, d2, d3, d4, d5] => { results := [.lit (.bool true)], args := [d1, d2, d3, d4, d5] }
  | _ => none }
def fnUnpremultiplyUndoneByPremultiplyRow : OpenClaim := { program := "ytmomchpfllbgjaa", sum := "b72cdbbd00c9df98a4d12b45e950a830e1920de16419059a88f8dce4d06897c9", func := "github.com/evanw/esbuild/n011_53.FnUnpremultiplyUndoneByPremultiply", spec := "fnUnpremultiplyUndoneByPremultiply", apart := false }
def FnUnpremultiplyUndoneByPremultiplySaid : Prop := fnUnpremultiplyUndoneByPremultiplyRow.holds Try.pinned (OpenSpec.ofChange fnUnpremultiplyUndoneByPremultiplySpec)

/-- ITS FALSE NEIGHBOUR: 'it returns false'. Refute it at one input. -/
def fnUnpremultiplyUndoneByPremultiplyWrong : ChangeSpec := { name := "fnUnpremultiplyUndoneByPremultiply", fn := fun _ => fun
  | [d1, d2, d3, d4, d5] => { results := [.lit (.bool false)], args := [d1, d2, d3, d4, d5] }
  | _ => none }
def FnUnpremultiplyUndoneByPremultiplyWrongFalsely : Prop := fnUnpremultiplyUndoneByPremultiplyRow.holds Try.pinned (OpenSpec.ofChange fnUnpremultiplyUndoneByPremultiplyWrong)

/- THE SECOND FORM. 'bulk': how many values and letters a reading holds, each counted each time it is reached (what is shared counts as often as it is met; a slice's spare places count too). A statement '..UptoSaid' is the law's where the arguments, and the package variables that the reading takes, are together of bulk at most 1048576: NARROWER than '..Said'. Prove '..Said' where nothing that the law and all that it calls make is longer than what came in: it says more and counts as full. Else prove '..UptoSaid'. A law counts once. -/
mutual
def uptoBulk {H : Type} : DataW H → Nat
  | .lit (.string bytes) => bytes.length + 1
  | .lit _ => 1
  | .nil => 1
  | .ptr d => uptoBulk d + 1
  | .slice elems spare => uptoBulkAll elems + uptoBulkAll spare + 1
  | .agg parts => uptoBulkAll parts + 1
  | .iface _ d => uptoBulk d + 1
  | .map entries => uptoBulkEntries entries + 1
  | .held _ => 1
def uptoBulkAll {H : Type} : List (DataW H) → Nat
  | [] => 0
  | d :: r => uptoBulk d + uptoBulkAll r
def uptoBulkEntries {H : Type} : List (Lit × DataW H) → Nat
  | [] => 0
  | x :: r => uptoBulkEntry x + uptoBulkEntries r
def uptoBulkEntry {H : Type} : Lit × DataW H → Nat
  | (.string bytes, d) => bytes.length + uptoBulk d + 1
  | (_, d) => uptoBulk d + 1
 end
def uptoSmall : (H : Type) → List (DataW H) → Bool := fun _ ds => decide (uptoBulkAll ds ≤ 1048576)
def OpenSpec.upto (s : _root_.Go.ChangeSpec) : _root_.Go.OpenSpec := { _root_.Go.OpenSpec.ofChange s with cond := some uptoSmall }

/-- 'n011_70.FnD50ToD65MapsWhiteToWhite', WHERE WHAT IT READS IS OF BULK AT MOST 1048576: true; the input reads as it did. -/
def fnD50ToD65MapsWhiteToWhiteUptoRow : OpenClaim := { program := "ytmomchpfllbgjaa", sum := "b72cdbbd00c9df98a4d12b45e950a830e1920de16419059a88f8dce4d06897c9", func := "github.com/evanw/esbuild/n011_70.FnD50ToD65MapsWhiteToWhite", spec := "fnD50ToD65MapsWhiteToWhite", apart := false, narrowed := true }
def FnD50ToD65MapsWhiteToWhiteUptoSaid : Prop := fnD50ToD65MapsWhiteToWhiteUptoRow.holds Try.pinned (OpenSpec.upto fnD50ToD65MapsWhiteToWhiteSpec)

/-- 'n011_70.FnXyzToLin2020MapsD65WhiteToGray', WHERE WHAT IT READS IS OF BULK AT MOST 1048576: true; the input reads as it did. -/
def fnXyzToLin2020MapsD65WhiteToGrayUptoRow : OpenClaim := { program := "ytmomchpfllbgjaa", sum := "b72cdbbd00c9df98a4d12b45e950a830e1920de16419059a88f8dce4d06897c9", func := "github.com/evanw/esbuild/n011_70.FnXyzToLin2020MapsD65WhiteToGray", spec := "fnXyzToLin2020MapsD65WhiteToGray", apart := false, narrowed := true }
def FnXyzToLin2020MapsD65WhiteToGrayUptoSaid : Prop := fnXyzToLin2020MapsD65WhiteToGrayUptoRow.holds Try.pinned (OpenSpec.upto fnXyzToLin2020MapsD65WhiteToGraySpec)

/-- 'n011_83.FnLinProphotoToXyzMapsEqualChannelsToD50White', WHERE WHAT IT READS IS OF BULK AT MOST 1048576: true; the input reads as it did. -/
def fnLinProphotoToXyzMapsEqualChannelsToD50WhiteUptoRow : OpenClaim := { program := "ytmomchpfllbgjaa", sum := "b72cdbbd00c9df98a4d12b45e950a830e1920de16419059a88f8dce4d06897c9", func := "github.com/evanw/esbuild/n011_83.FnLinProphotoToXyzMapsEqualChannelsToD50White", spec := "fnLinProphotoToXyzMapsEqualChannelsToD50White", apart := false, narrowed := true }
def FnLinProphotoToXyzMapsEqualChannelsToD50WhiteUptoSaid : Prop := fnLinProphotoToXyzMapsEqualChannelsToD50WhiteUptoRow.holds Try.pinned (OpenSpec.upto fnLinProphotoToXyzMapsEqualChannelsToD50WhiteSpec)

/-- 'n011_62.FnLinSrgbToXyzInvertedByXyzToLinSrgb', WHERE WHAT IT READS IS OF BULK AT MOST 1048576: true; the input reads as it did. -/
def fnLinSrgbToXyzInvertedByXyzToLinSrgbUptoRow : OpenClaim := { program := "ytmomchpfllbgjaa", sum := "b72cdbbd00c9df98a4d12b45e950a830e1920de16419059a88f8dce4d06897c9", func := "github.com/evanw/esbuild/n011_62.FnLinSrgbToXyzInvertedByXyzToLinSrgb", spec := "fnLinSrgbToXyzInvertedByXyzToLinSrgb", apart := false, narrowed := true }
def FnLinSrgbToXyzInvertedByXyzToLinSrgbUptoSaid : Prop := fnLinSrgbToXyzInvertedByXyzToLinSrgbUptoRow.holds Try.pinned (OpenSpec.upto fnLinSrgbToXyzInvertedByXyzToLinSrgbSpec)

/-- 'n011_70.FnD50ToD65RoundTrip', WHERE WHAT IT READS IS OF BULK AT MOST 1048576: true; the input reads as it did. -/
def fnD50ToD65RoundTripUptoRow : OpenClaim := { program := "ytmomchpfllbgjaa", sum := "b72cdbbd00c9df98a4d12b45e950a830e1920de16419059a88f8dce4d06897c9", func := "github.com/evanw/esbuild/n011_70.FnD50ToD65RoundTrip", spec := "fnD50ToD65RoundTrip", apart := false, narrowed := true }
def FnD50ToD65RoundTripUptoSaid : Prop := fnD50ToD65RoundTripUptoRow.holds Try.pinned (OpenSpec.upto fnD50ToD65RoundTripSpec)

/-- 'n011_70.FnXyzToLin2020RoundTrip', WHERE WHAT IT READS IS OF BULK AT MOST 1048576: true; the input reads as it did. -/
def fnXyzToLin2020RoundTripUptoRow : OpenClaim := { program := "ytmomchpfllbgjaa", sum := "b72cdbbd00c9df98a4d12b45e950a830e1920de16419059a88f8dce4d06897c9", func := "github.com/evanw/esbuild/n011_70.FnXyzToLin2020RoundTrip", spec := "fnXyzToLin2020RoundTrip", apart := false, narrowed := true }
def FnXyzToLin2020RoundTripUptoSaid : Prop := fnXyzToLin2020RoundTripUptoRow.holds Try.pinned (OpenSpec.upto fnXyzToLin2020RoundTripSpec)

/-- 'n011_83.FnLinProphotoToXyzIsInverseOfXyzToLinProphoto', WHERE WHAT IT READS IS OF BULK AT MOST 1048576: true; the input reads as it did. -/
def fnLinProphotoToXyzIsInverseOfXyzToLinProphotoUptoRow : OpenClaim := { program := "ytmomchpfllbgjaa", sum := "b72cdbbd00c9df98a4d12b45e950a830e1920de16419059a88f8dce4d06897c9", func := "github.com/evanw/esbuild/n011_83.FnLinProphotoToXyzIsInverseOfXyzToLinProphoto", spec := "fnLinProphotoToXyzIsInverseOfXyzToLinProphoto", apart := false, narrowed := true }
def FnLinProphotoToXyzIsInverseOfXyzToLinProphotoUptoSaid : Prop := fnLinProphotoToXyzIsInverseOfXyzToLinProphotoUptoRow.holds Try.pinned (OpenSpec.upto fnLinProphotoToXyzIsInverseOfXyzToLinProphotoSpec)

/-- 'n011_62.FnLinSrgbToXyzFromPrimariesAndWhite', WHERE WHAT IT READS IS OF BULK AT MOST 1048576: true; the input reads as it did. -/
def fnLinSrgbToXyzFromPrimariesAndWhiteUptoRow : OpenClaim := { program := "ytmomchpfllbgjaa", sum := "b72cdbbd00c9df98a4d12b45e950a830e1920de16419059a88f8dce4d06897c9", func := "github.com/evanw/esbuild/n011_62.FnLinSrgbToXyzFromPrimariesAndWhite", spec := "fnLinSrgbToXyzFromPrimariesAndWhite", apart := false, narrowed := true }
def FnLinSrgbToXyzFromPrimariesAndWhiteUptoSaid : Prop := fnLinSrgbToXyzFromPrimariesAndWhiteUptoRow.holds Try.pinned (OpenSpec.upto fnLinSrgbToXyzFromPrimariesAndWhiteSpec)

/-- 'n011_293.FnLinA98RgbToXyzMapsGrayToD65AndIsInverted', WHERE WHAT IT READS IS OF BULK AT MOST 1048576: true; the input reads as it did. -/
def fnLinA98RgbToXyzMapsGrayToD65AndIsInvertedUptoRow : OpenClaim := { program := "ytmomchpfllbgjaa", sum := "b72cdbbd00c9df98a4d12b45e950a830e1920de16419059a88f8dce4d06897c9", func := "github.com/evanw/esbuild/n011_293.FnLinA98RgbToXyzMapsGrayToD65AndIsInverted", spec := "fnLinA98RgbToXyzMapsGrayToD65AndIsInverted", apart := false, narrowed := true }
def FnLinA98RgbToXyzMapsGrayToD65AndIsInvertedUptoSaid : Prop := fnLinA98RgbToXyzMapsGrayToD65AndIsInvertedUptoRow.holds Try.pinned (OpenSpec.upto fnLinA98RgbToXyzMapsGrayToD65AndIsInvertedSpec)

/-- 'n011_293.FnLinA98RgbToXyzIsMonotoneAndKeepsGamutInWhiteBox', WHERE WHAT IT READS IS OF BULK AT MOST 1048576: true; the input reads as it did. -/
def fnLinA98RgbToXyzIsMonotoneAndKeepsGamutInWhiteBoxUptoRow : OpenClaim := { program := "ytmomchpfllbgjaa", sum := "b72cdbbd00c9df98a4d12b45e950a830e1920de16419059a88f8dce4d06897c9", func := "github.com/evanw/esbuild/n011_293.FnLinA98RgbToXyzIsMonotoneAndKeepsGamutInWhiteBox", spec := "fnLinA98RgbToXyzIsMonotoneAndKeepsGamutInWhiteBox", apart := false, narrowed := true }
def FnLinA98RgbToXyzIsMonotoneAndKeepsGamutInWhiteBoxUptoSaid : Prop := fnLinA98RgbToXyzIsMonotoneAndKeepsGamutInWhiteBoxUptoRow.holds Try.pinned (OpenSpec.upto fnLinA98RgbToXyzIsMonotoneAndKeepsGamutInWhiteBoxSpec)

/-- 'n011_53.FnPremultiplyUndoneByUnpremultiply', WHERE WHAT IT READS IS OF BULK AT MOST 1048576: true; the input reads as it did. -/
def fnPremultiplyUndoneByUnpremultiplyUptoRow : OpenClaim := { program := "ytmomchpfllbgjaa", sum := "b72cdbbd00c9df98a4d12b45e950a830e1920de16419059a88f8dce4d06897c9", func := "github.com/evanw/esbuild/n011_53.FnPremultiplyUndoneByUnpremultiply", spec := "fnPremultiplyUndoneByUnpremultiply", apart := false, narrowed := true }
def FnPremultiplyUndoneByUnpremultiplyUptoSaid : Prop := fnPremultiplyUndoneByUnpremultiplyUptoRow.holds Try.pinned (OpenSpec.upto fnPremultiplyUndoneByUnpremultiplySpec)

/-- 'n011_53.FnUnpremultiplyUndoneByPremultiply', WHERE WHAT IT READS IS OF BULK AT MOST 1048576: true; the input reads as it did. -/
def fnUnpremultiplyUndoneByPremultiplyUptoRow : OpenClaim := { program := "ytmomchpfllbgjaa", sum := "b72cdbbd00c9df98a4d12b45e950a830e1920de16419059a88f8dce4d06897c9", func := "github.com/evanw/esbuild/n011_53.FnUnpremultiplyUndoneByPremultiply", spec := "fnUnpremultiplyUndoneByPremultiply", apart := false, narrowed := true }
def FnUnpremultiplyUndoneByPremultiplyUptoSaid : Prop := fnUnpremultiplyUndoneByPremultiplyUptoRow.holds Try.pinned (OpenSpec.upto fnUnpremultiplyUndoneByPremultiplySpec)

end Rows
end Go.Proofs.Ytmomchpfllbgjaa
