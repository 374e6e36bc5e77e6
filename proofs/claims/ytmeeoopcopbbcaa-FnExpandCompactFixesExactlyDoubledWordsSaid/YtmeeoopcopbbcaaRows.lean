/-
  No cell of these rows narrows 'for every input' (looked for: loops, veiled, ifaces, maps, wideKeys, modest, calm, conditions, laid).
  DERIVED. THE GIVEN ROWS OF THIS SEAT. 5 by the template 'for every input the law returns true; each argument reads behind the call as it read before'; 0 by the template 'total and deterministic' (their statements: YtmeeoopcopbbcaaTotals.lean).
  GIVEN WITH THE SEED: the statements are not yours to turn. If you find one false, say at which input.
  Laid BY PROGRAM, IN A SANDBOX (cutbox-rows.mjs): the forced cells as the released guide's own fill.sh prints them over the translation 5f215b65f932f388… (all of the seat's roots in one cut). By AI agents, Wed Nov 11 2026. No macro, syntax, notation, axiom, sorry.
-/
import Derived.Test.YtmeeoopcopbbcaaChecked
import GoSem.Claim
import GoSem.ClaimJoined
import GoSem.ClaimMapViews
import Derived.JoinedTies
import Derived.KernelRfl
namespace Go.Proofs.Ytmeeoopcopbbcaa
/- THE CELL 'sum', in the pinned program and in every row, IS THE sha256 OF THE DUMP (.gsa) THAT YtmeeoopcopbbcaaProg.lean LOADS. Nothing in Lean hashes anything: it is a label: what it is worth is what the hold of that sum in a sandbox is worth. -/
noncomputable def Try.pinned : Pinned := { name := "ytmeeoopcopbbcaa", sum := "5f215b65f932f3887dbe62f868c720b4226f821fb2c7bf267e794391763da844", checked := Try.checked }
namespace Rows
def none {H : Type} : Left H := { results := [], args := [] }

/-- 'n011_103.FnIsCommonJSWrapRange': WHATEVER THE INPUT: true; the input reads as it did. -/
def fnIsCommonJSWrapRangeSpec : ChangeSpec := { name := "fnIsCommonJSWrapRange", fn := fun _ => fun
  | [d] => { results := [.lit (.bool true)], args := [d] }
  | _ => none }
def fnIsCommonJSWrapRangeRow : OpenClaim := { program := "ytmeeoopcopbbcaa", sum := "5f215b65f932f3887dbe62f868c720b4226f821fb2c7bf267e794391763da844", func := "github.com/evanw/esbuild/n011_103.FnIsCommonJSWrapRange", spec := "fnIsCommonJSWrapRange", apart := false }
def FnIsCommonJSWrapRangeSaid : Prop := fnIsCommonJSWrapRangeRow.holds Try.pinned (OpenSpec.ofChange fnIsCommonJSWrapRangeSpec)

/-- ITS FALSE NEIGHBOUR: 'it returns false'. Refute it at one input. -/
def fnIsCommonJSWrapRangeWrong : ChangeSpec := { name := "fnIsCommonJSWrapRange", fn := fun _ => fun
  | [d] => { results := [.lit (.bool false)], args := [d] }
  | _ => none }
def FnIsCommonJSWrapRangeWrongFalsely : Prop := fnIsCommonJSWrapRangeRow.holds Try.pinned (OpenSpec.ofChange fnIsCommonJSWrapRangeWrong)

/-- 'n011_84.FnCompactHexPicksOneNibblePerByte': WHATEVER THE INPUT: true; the input reads as it did. -/
def fnCompactHexPicksOneNibblePerByteSpec : ChangeSpec := { name := "fnCompactHexPicksOneNibblePerByte", fn := fun _ => fun
  | [d] => { results := [.lit (.bool true)], args := [d] }
  | _ => none }
def fnCompactHexPicksOneNibblePerByteRow : OpenClaim := { program := "ytmeeoopcopbbcaa", sum := "5f215b65f932f3887dbe62f868c720b4226f821fb2c7bf267e794391763da844", func := "github.com/evanw/esbuild/n011_84.FnCompactHexPicksOneNibblePerByte", spec := "fnCompactHexPicksOneNibblePerByte", apart := false }
def FnCompactHexPicksOneNibblePerByteSaid : Prop := fnCompactHexPicksOneNibblePerByteRow.holds Try.pinned (OpenSpec.ofChange fnCompactHexPicksOneNibblePerByteSpec)

/-- ITS FALSE NEIGHBOUR: 'it returns false'. Refute it at one input. -/
def fnCompactHexPicksOneNibblePerByteWrong : ChangeSpec := { name := "fnCompactHexPicksOneNibblePerByte", fn := fun _ => fun
  | [d] => { results := [.lit (.bool false)], args := [d] }
  | _ => none }
def FnCompactHexPicksOneNibblePerByteWrongFalsely : Prop := fnCompactHexPicksOneNibblePerByteRow.holds Try.pinned (OpenSpec.ofChange fnCompactHexPicksOneNibblePerByteWrong)

/-- 'n011_84.FnHexRIsTopByte': WHATEVER THE INPUT: true; the input reads as it did. -/
def fnHexRIsTopByteSpec : ChangeSpec := { name := "fnHexRIsTopByte", fn := fun _ => fun
  | [d1, d2] => { results := [.lit (.bool true)], args := [d1, d2] }
  | _ => none }
def fnHexRIsTopByteRow : OpenClaim := { program := "ytmeeoopcopbbcaa", sum := "5f215b65f932f3887dbe62f868c720b4226f821fb2c7bf267e794391763da844", func := "github.com/evanw/esbuild/n011_84.FnHexRIsTopByte", spec := "fnHexRIsTopByte", apart := false }
def FnHexRIsTopByteSaid : Prop := fnHexRIsTopByteRow.holds Try.pinned (OpenSpec.ofChange fnHexRIsTopByteSpec)

/-- ITS FALSE NEIGHBOUR: 'it returns false'. Refute it at one input. -/
def fnHexRIsTopByteWrong : ChangeSpec := { name := "fnHexRIsTopByte", fn := fun _ => fun
  | [d1, d2] => { results := [.lit (.bool false)], args := [d1, d2] }
  | _ => none }
def FnHexRIsTopByteWrongFalsely : Prop := fnHexRIsTopByteRow.holds Try.pinned (OpenSpec.ofChange fnHexRIsTopByteWrong)

/-- 'n011_84.FnExpandCompactFixesExactlyDoubledWords': WHATEVER THE INPUT: true; the input reads as it did. -/
def fnExpandCompactFixesExactlyDoubledWordsSpec : ChangeSpec := { name := "fnExpandCompactFixesExactlyDoubledWords", fn := fun _ => fun
  | [d] => { results := [.lit (.bool true)], args := [d] }
  | _ => none }
def fnExpandCompactFixesExactlyDoubledWordsRow : OpenClaim := { program := "ytmeeoopcopbbcaa", sum := "5f215b65f932f3887dbe62f868c720b4226f821fb2c7bf267e794391763da844", func := "github.com/evanw/esbuild/n011_84.FnExpandCompactFixesExactlyDoubledWords", spec := "fnExpandCompactFixesExactlyDoubledWords", apart := false }
def FnExpandCompactFixesExactlyDoubledWordsSaid : Prop := fnExpandCompactFixesExactlyDoubledWordsRow.holds Try.pinned (OpenSpec.ofChange fnExpandCompactFixesExactlyDoubledWordsSpec)

/-- ITS FALSE NEIGHBOUR: 'it returns false'. Refute it at one input. -/
def fnExpandCompactFixesExactlyDoubledWordsWrong : ChangeSpec := { name := "fnExpandCompactFixesExactlyDoubledWords", fn := fun _ => fun
  | [d] => { results := [.lit (.bool false)], args := [d] }
  | _ => none }
def FnExpandCompactFixesExactlyDoubledWordsWrongFalsely : Prop := fnExpandCompactFixesExactlyDoubledWordsRow.holds Try.pinned (OpenSpec.ofChange fnExpandCompactFixesExactlyDoubledWordsWrong)

/-- 'n011_84.FnHexRAgreesWithLeadingDigits': WHATEVER THE INPUT: true; the input reads as it did. -/
def fnHexRAgreesWithLeadingDigitsSpec : ChangeSpec := { name := "fnHexRAgreesWithLeadingDigits", fn := fun _ => fun
  | [d] => { results := [.lit (.bool true)], args := [d] }
  | _ => none }
def fnHexRAgreesWithLeadingDigitsRow : OpenClaim := { program := "ytmeeoopcopbbcaa", sum := "5f215b65f932f3887dbe62f868c720b4226f821fb2c7bf267e794391763da844", func := "github.com/evanw/esbuild/n011_84.FnHexRAgreesWithLeadingDigits", spec := "fnHexRAgreesWithLeadingDigits", apart := false }
def FnHexRAgreesWithLeadingDigitsSaid : Prop := fnHexRAgreesWithLeadingDigitsRow.holds Try.pinned (OpenSpec.ofChange fnHexRAgreesWithLeadingDigitsSpec)

/-- ITS FALSE NEIGHBOUR: 'it returns false'. Refute it at one input. -/
def fnHexRAgreesWithLeadingDigitsWrong : ChangeSpec := { name := "fnHexRAgreesWithLeadingDigits", fn := fun _ => fun
  | [d] => { results := [.lit (.bool false)], args := [d] }
  | _ => none }
def FnHexRAgreesWithLeadingDigitsWrongFalsely : Prop := fnHexRAgreesWithLeadingDigitsRow.holds Try.pinned (OpenSpec.ofChange fnHexRAgreesWithLeadingDigitsWrong)

/- THE SECOND FORM. 'bulk': how many values and letters a reading holds, each counted each time it is reached (what is shared counts as often as it is met; a slice's spare places count too). A statement '..UptoSaid' is the law's where the arguments, and the package variables that the reading takes, are together of bulk at most 1048576: NARROWER than '..Said'. Prove '..Said' where nothing that the law and all that it calls make is longer than what came in: it says more and counts as full. Else prove '..UptoSaid'. A law counts once. -/
mutual
def uptoBulk {H : Type} : DataW H → Nat
  | .lit (.string bytes) => bytes.length + 1
  | .lit _ => 1
  | .nil => 1
  | .ptr d => uptoBulk d + 1
  | .slice elems spare => uptoBulkAll elems + uptoBulkAll spare + 1
  | .agg parts => uptoBulkAll parts + 1
  | .iface _ d => uptoBulk d + 1
  | .map entries => uptoBulkEntries entries + 1
  | .held _ => 1
def uptoBulkAll {H : Type} : List (DataW H) → Nat
  | [] => 0
  | d :: r => uptoBulk d + uptoBulkAll r
def uptoBulkEntries {H : Type} : List (Lit × DataW H) → Nat
  | [] => 0
  | x :: r => uptoBulkEntry x + uptoBulkEntries r
def uptoBulkEntry {H : Type} : Lit × DataW H → Nat
  | (.string bytes, d) => bytes.length + uptoBulk d + 1
  | (_, d) => uptoBulk d + 1
 end
def uptoSmall : (H : Type) → List (DataW H) → Bool := fun _ ds => decide (uptoBulkAll ds ≤ 1048576)
def OpenSpec.upto (s : _root_.Go.ChangeSpec) : _root_.Go.OpenSpec := { _root_.Go.OpenSpec.ofChange s with cond := some uptoSmall }

/-- 'n011_103.FnIsCommonJSWrapRange', WHERE WHAT IT READS IS OF BULK AT MOST 1048576: true; the input reads as it did. -/
def fnIsCommonJSWrapRangeUptoRow : OpenClaim := { program := "ytmeeoopcopbbcaa", sum := "5f215b65f932f3887dbe62f868c720b4226f821fb2c7bf267e794391763da844", func := "github.com/evanw/esbuild/n011_103.FnIsCommonJSWrapRange", spec := "fnIsCommonJSWrapRange", apart := false, narrowed := true }
def FnIsCommonJSWrapRangeUptoSaid : Prop := fnIsCommonJSWrapRangeUptoRow.holds Try.pinned (OpenSpec.upto fnIsCommonJSWrapRangeSpec)

/-- 'n011_84.FnCompactHexPicksOneNibblePerByte', WHERE WHAT IT READS IS OF BULK AT MOST 1048576: true; the input reads as it did. -/
def fnCompactHexPicksOneNibblePerByteUptoRow : OpenClaim := { program := "ytmeeoopcopbbcaa", sum := "5f215b65f932f3887dbe62f868c720b4226f821fb2c7bf267e794391763da844", func := "github.com/evanw/esbuild/n011_84.FnCompactHexPicksOneNibblePerByte", spec := "fnCompactHexPicksOneNibblePerByte", apart := false, narrowed := true }
def FnCompactHexPicksOneNibblePerByteUptoSaid : Prop := fnCompactHexPicksOneNibblePerByteUptoRow.holds Try.pinned (OpenSpec.upto fnCompactHexPicksOneNibblePerByteSpec)

/-- 'n011_84.FnHexRIsTopByte', WHERE WHAT IT READS IS OF BULK AT MOST 1048576: true; the input reads as it did. -/
def fnHexRIsTopByteUptoRow : OpenClaim := { program := "ytmeeoopcopbbcaa", sum := "5f215b65f932f3887dbe62f868c720b4226f821fb2c7bf267e794391763da844", func := "github.com/evanw/esbuild/n011_84.FnHexRIsTopByte", spec := "fnHexRIsTopByte", apart := false, narrowed := true }
def FnHexRIsTopByteUptoSaid : Prop := fnHexRIsTopByteUptoRow.holds Try.pinned (OpenSpec.upto fnHexRIsTopByteSpec)

/-- 'n011_84.FnExpandCompactFixesExactlyDoubledWords', WHERE WHAT IT READS IS OF BULK AT MOST 1048576: true; the input reads as it did. -/
def fnExpandCompactFixesExactlyDoubledWordsUptoRow : OpenClaim := { program := "ytmeeoopcopbbcaa", sum := "5f215b65f932f3887dbe62f868c720b4226f821fb2c7bf267e794391763da844", func := "github.com/evanw/esbuild/n011_84.FnExpandCompactFixesExactlyDoubledWords", spec := "fnExpandCompactFixesExactlyDoubledWords", apart := false, narrowed := true }
def FnExpandCompactFixesExactlyDoubledWordsUptoSaid : Prop := fnExpandCompactFixesExactlyDoubledWordsUptoRow.holds Try.pinned (OpenSpec.upto fnExpandCompactFixesExactlyDoubledWordsSpec)

/-- 'n011_84.FnHexRAgreesWithLeadingDigits', WHERE WHAT IT READS IS OF BULK AT MOST 1048576: true; the input reads as it did. -/
def fnHexRAgreesWithLeadingDigitsUptoRow : OpenClaim := { program := "ytmeeoopcopbbcaa", sum := "5f215b65f932f3887dbe62f868c720b4226f821fb2c7bf267e794391763da844", func := "github.com/evanw/esbuild/n011_84.FnHexRAgreesWithLeadingDigits", spec := "fnHexRAgreesWithLeadingDigits", apart := false, narrowed := true }
def FnHexRAgreesWithLeadingDigitsUptoSaid : Prop := fnHexRAgreesWithLeadingDigitsUptoRow.holds Try.pinned (OpenSpec.upto fnHexRAgreesWithLeadingDigitsSpec)

end Rows
end Go.Proofs.Ytmeeoopcopbbcaa
