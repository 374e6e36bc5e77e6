/-
  No cell of these rows narrows 'for every input' (looked for: loops, veiled, ifaces, maps, wideKeys, modest, calm, conditions, laid).
  DERIVED. THE GIVEN ROWS OF THIS SEAT. 5 by the template 'for every input the law returns true; each argument reads behind the call as it read before'; 0 by the template 'total and deterministic' (their statements: YtlhcgnlbhncfkaaTotals.lean).
  GIVEN WITH THE SEED: the statements are not yours to turn. If you find one false, say at which input.
  Laid BY PROGRAM, IN A SANDBOX (cutbox-rows.mjs): the forced cells as the released guide's own fill.sh prints them over the translation e0de7a9518030826… (all of the seat's roots in one cut). By AI agents, Wed Nov 11 2026. No macro, syntax, notation, axiom, sorry.
-/
import Derived.Test.YtlhcgnlbhncfkaaChecked
import GoSem.Claim
import GoSem.ClaimJoined
import GoSem.ClaimMapViews
import Derived.JoinedTies
import Derived.KernelRfl
namespace Go.Proofs.Ytlhcgnlbhncfkaa
/- THE CELL 'sum', in the pinned program and in every row, IS THE sha256 OF THE DUMP (.gsa) THAT YtlhcgnlbhncfkaaProg.lean LOADS. Nothing in Lean hashes anything: it is a label: what it is worth is what the hold of that sum in a sandbox is worth. -/
noncomputable def Try.pinned : Pinned := { name := "ytlhcgnlbhncfkaa", sum := "e0de7a95180308262fb7eb81e4318c80f3a25ef72d7fff479f7692c0a38c3fa6", checked := Try.checked }
namespace Rows
def none {H : Type} : Left H := { results := [], args := [] }

/-- 'n011_275.FnCompoundTermCountIsSubclassTokenCount': WHATEVER THE INPUT: true; the input reads as it did. -/
def fnCompoundTermCountIsSubclassTokenCountSpec : ChangeSpec := { name := "fnCompoundTermCountIsSubclassTokenCount", fn := fun _ => fun
  | [d] => { results := [.lit (.bool true)], args := [d] }
  | _ => none }
def fnCompoundTermCountIsSubclassTokenCountRow : OpenClaim := { program := "ytlhcgnlbhncfkaa", sum := "e0de7a95180308262fb7eb81e4318c80f3a25ef72d7fff479f7692c0a38c3fa6", func := "github.com/evanw/esbuild/n011_275.FnCompoundTermCountIsSubclassTokenCount", spec := "fnCompoundTermCountIsSubclassTokenCount", recurses := true, apart := false }
def FnCompoundTermCountIsSubclassTokenCountSaid : Prop := fnCompoundTermCountIsSubclassTokenCountRow.holds Try.pinned (OpenSpec.ofChange fnCompoundTermCountIsSubclassTokenCountSpec)

/-- ITS FALSE NEIGHBOUR: 'it returns false'. Refute it at one input. -/
def fnCompoundTermCountIsSubclassTokenCountWrong : ChangeSpec := { name := "fnCompoundTermCountIsSubclassTokenCount", fn := fun _ => fun
  | [d] => { results := [.lit (.bool false)], args := [d] }
  | _ => none }
def FnCompoundTermCountIsSubclassTokenCountWrongFalsely : Prop := fnCompoundTermCountIsSubclassTokenCountRow.holds Try.pinned (OpenSpec.ofChange fnCompoundTermCountIsSubclassTokenCountWrong)

/-- 'n011_306.FnOptionsFromConfigEqualExact': WHATEVER THE INPUT: true; the input reads as it did. -/
def fnOptionsFromConfigEqualExactSpec : ChangeSpec := { name := "fnOptionsFromConfigEqualExact", fn := fun _ => fun
  | [d1, d2, d3, d4, d5, d6, d7, d8, d9, d10, d11, d12] => { results := [.lit (.bool true)], args := [d1, d2, d3, d4, d5, d6, d7, d8, d9, d10, d11, d12] }
  | _ => none }
def fnOptionsFromConfigEqualExactRow : OpenClaim := { program := "ytlhcgnlbhncfkaa", sum := "e0de7a95180308262fb7eb81e4318c80f3a25ef72d7fff479f7692c0a38c3fa6", func := "github.com/evanw/esbuild/n011_306.FnOptionsFromConfigEqualExact", spec := "fnOptionsFromConfigEqualExact", apart := false }
def FnOptionsFromConfigEqualExactSaid : Prop := fnOptionsFromConfigEqualExactRow.holds Try.pinned (OpenSpec.ofChange fnOptionsFromConfigEqualExactSpec)

/-- ITS FALSE NEIGHBOUR: 'it returns false'. Refute it at one input. -/
def fnOptionsFromConfigEqualExactWrong : ChangeSpec := { name := "fnOptionsFromConfigEqualExact", fn := fun _ => fun
  | [d1, d2, d3, d4, d5, d6, d7, d8, d9, d10, d11, d12] => { results := [.lit (.bool false)], args := [d1, d2, d3, d4, d5, d6, d7, d8, d9, d10, d11, d12] }
  | _ => none }
def FnOptionsFromConfigEqualExactWrongFalsely : Prop := fnOptionsFromConfigEqualExactRow.holds Try.pinned (OpenSpec.ofChange fnOptionsFromConfigEqualExactWrong)

/-- 'n011_306.FnOptionsEqualReflexiveSymmetric': WHATEVER THE INPUT: true; the input reads as it did. -/
def fnOptionsEqualReflexiveSymmetricSpec : ChangeSpec := { name := "fnOptionsEqualReflexiveSymmetric", fn := fun _ => fun
  | [d1, d2, d3, d4, d5, d6, d7, d8, d9, d10, d11, d12] => { results := [.lit (.bool true)], args := [d1, d2, d3, d4, d5, d6, d7, d8, d9, d10, d11, d12] }
  | _ => none }
def fnOptionsEqualReflexiveSymmetricRow : OpenClaim := { program := "ytlhcgnlbhncfkaa", sum := "e0de7a95180308262fb7eb81e4318c80f3a25ef72d7fff479f7692c0a38c3fa6", func := "github.com/evanw/esbuild/n011_306.FnOptionsEqualReflexiveSymmetric", spec := "fnOptionsEqualReflexiveSymmetric", apart := false }
def FnOptionsEqualReflexiveSymmetricSaid : Prop := fnOptionsEqualReflexiveSymmetricRow.holds Try.pinned (OpenSpec.ofChange fnOptionsEqualReflexiveSymmetricSpec)

/-- ITS FALSE NEIGHBOUR: 'it returns false'. Refute it at one input. -/
def fnOptionsEqualReflexiveSymmetricWrong : ChangeSpec := { name := "fnOptionsEqualReflexiveSymmetric", fn := fun _ => fun
  | [d1, d2, d3, d4, d5, d6, d7, d8, d9, d10, d11, d12] => { results := [.lit (.bool false)], args := [d1, d2, d3, d4, d5, d6, d7, d8, d9, d10, d11, d12] }
  | _ => none }
def FnOptionsEqualReflexiveSymmetricWrongFalsely : Prop := fnOptionsEqualReflexiveSymmetricRow.holds Try.pinned (OpenSpec.ofChange fnOptionsEqualReflexiveSymmetricWrong)

/-- 'n011_275.FnComplexTermCountAddsOverConcatenation': WHATEVER THE INPUT: true; the input reads as it did. -/
def fnComplexTermCountAddsOverConcatenationSpec : ChangeSpec := { name := "fnComplexTermCountAddsOverConcatenation", fn := fun _ => fun
  | [d1, d2] => { results := [.lit (.bool true)], args := [d1, d2] }
  | _ => none }
def fnComplexTermCountAddsOverConcatenationRow : OpenClaim := { program := "ytlhcgnlbhncfkaa", sum := "e0de7a95180308262fb7eb81e4318c80f3a25ef72d7fff479f7692c0a38c3fa6", func := "github.com/evanw/esbuild/n011_275.FnComplexTermCountAddsOverConcatenation", spec := "fnComplexTermCountAddsOverConcatenation", recurses := true, apart := false }
def FnComplexTermCountAddsOverConcatenationSaid : Prop := fnComplexTermCountAddsOverConcatenationRow.holds Try.pinned (OpenSpec.ofChange fnComplexTermCountAddsOverConcatenationSpec)

/-- ITS FALSE NEIGHBOUR: 'it returns false'. Refute it at one input. -/
def fnComplexTermCountAddsOverConcatenationWrong : ChangeSpec := { name := "fnComplexTermCountAddsOverConcatenation", fn := fun _ => fun
  | [d1, d2] => { results := [.lit (.bool false)], args := [d1, d2] }
  | _ => none }
def FnComplexTermCountAddsOverConcatenationWrongFalsely : Prop := fnComplexTermCountAddsOverConcatenationRow.holds Try.pinned (OpenSpec.ofChange fnComplexTermCountAddsOverConcatenationWrong)

/-- 'n011_87.FnContainsDeadSelectorsSplitReverse': WHATEVER THE INPUT: true; the input reads as it did. -/
def fnContainsDeadSelectorsSplitReverseSpec : ChangeSpec := { name := "fnContainsDeadSelectorsSplitReverse", fn := fun _ => fun
  | [d1, d2, d3, d4] => { results := [.lit (.bool true)], args := [d1, d2, d3, d4] }
  | _ => none }
def fnContainsDeadSelectorsSplitReverseRow : OpenClaim := { program := "ytlhcgnlbhncfkaa", sum := "e0de7a95180308262fb7eb81e4318c80f3a25ef72d7fff479f7692c0a38c3fa6", func := "github.com/evanw/esbuild/n011_87.FnContainsDeadSelectorsSplitReverse", spec := "fnContainsDeadSelectorsSplitReverse", apart := false }
def FnContainsDeadSelectorsSplitReverseSaid : Prop := fnContainsDeadSelectorsSplitReverseRow.holds Try.pinned (OpenSpec.ofChange fnContainsDeadSelectorsSplitReverseSpec)

/-- ITS FALSE NEIGHBOUR: 'it returns false'. Refute it at one input. -/
def fnContainsDeadSelectorsSplitReverseWrong : ChangeSpec := { name := "fnContainsDeadSelectorsSplitReverse", fn := fun _ => fun
  | [d1, d2, d3, d4] => { results := [.lit (.bool false)], args := [d1, d2, d3, d4] }
  | _ => none }
def FnContainsDeadSelectorsSplitReverseWrongFalsely : Prop := fnContainsDeadSelectorsSplitReverseRow.holds Try.pinned (OpenSpec.ofChange fnContainsDeadSelectorsSplitReverseWrong)

/- THE SECOND FORM. 'bulk': how many values and letters a reading holds, each counted each time it is reached (what is shared counts as often as it is met; a slice's spare places count too). A statement '..UptoSaid' is the law's where the arguments, and the package variables that the reading takes, are together of bulk at most 1048576: NARROWER than '..Said'. Prove '..Said' where nothing that the law and all that it calls make is longer than what came in: it says more and counts as full. Else prove '..UptoSaid'. A law counts once. -/
mutual
def uptoBulk {H : Type} : DataW H → Nat
  | .lit (.string bytes) => bytes.length + 1
  | .lit _ => 1
  | .nil => 1
  | .ptr d => uptoBulk d + 1
  | .slice elems spare => uptoBulkAll elems + uptoBulkAll spare + 1
  | .agg parts => uptoBulkAll parts + 1
  | .iface _ d => uptoBulk d + 1
  | .map entries => uptoBulkEntries entries + 1
  | .held _ => 1
def uptoBulkAll {H : Type} : List (DataW H) → Nat
  | [] => 0
  | d :: r => uptoBulk d + uptoBulkAll r
def uptoBulkEntries {H : Type} : List (Lit × DataW H) → Nat
  | [] => 0
  | x :: r => uptoBulkEntry x + uptoBulkEntries r
def uptoBulkEntry {H : Type} : Lit × DataW H → Nat
  | (.string bytes, d) => bytes.length + uptoBulk d + 1
  | (_, d) => uptoBulk d + 1
 end
def uptoSmall : (H : Type) → List (DataW H) → Bool := fun _ ds => decide (uptoBulkAll ds ≤ 1048576)
def OpenSpec.upto (s : _root_.Go.ChangeSpec) : _root_.Go.OpenSpec := { _root_.Go.OpenSpec.ofChange s with cond := some uptoSmall }

/-- 'n011_275.FnCompoundTermCountIsSubclassTokenCount', WHERE WHAT IT READS IS OF BULK AT MOST 1048576: true; the input reads as it did. -/
def fnCompoundTermCountIsSubclassTokenCountUptoRow : OpenClaim := { program := "ytlhcgnlbhncfkaa", sum := "e0de7a95180308262fb7eb81e4318c80f3a25ef72d7fff479f7692c0a38c3fa6", func := "github.com/evanw/esbuild/n011_275.FnCompoundTermCountIsSubclassTokenCount", spec := "fnCompoundTermCountIsSubclassTokenCount", recurses := true, apart := false, narrowed := true }
def FnCompoundTermCountIsSubclassTokenCountUptoSaid : Prop := fnCompoundTermCountIsSubclassTokenCountUptoRow.holds Try.pinned (OpenSpec.upto fnCompoundTermCountIsSubclassTokenCountSpec)

/-- 'n011_306.FnOptionsFromConfigEqualExact', WHERE WHAT IT READS IS OF BULK AT MOST 1048576: true; the input reads as it did. -/
def fnOptionsFromConfigEqualExactUptoRow : OpenClaim := { program := "ytlhcgnlbhncfkaa", sum := "e0de7a95180308262fb7eb81e4318c80f3a25ef72d7fff479f7692c0a38c3fa6", func := "github.com/evanw/esbuild/n011_306.FnOptionsFromConfigEqualExact", spec := "fnOptionsFromConfigEqualExact", apart := false, narrowed := true }
def FnOptionsFromConfigEqualExactUptoSaid : Prop := fnOptionsFromConfigEqualExactUptoRow.holds Try.pinned (OpenSpec.upto fnOptionsFromConfigEqualExactSpec)

/-- 'n011_306.FnOptionsEqualReflexiveSymmetric', WHERE WHAT IT READS IS OF BULK AT MOST 1048576: true; the input reads as it did. -/
def fnOptionsEqualReflexiveSymmetricUptoRow : OpenClaim := { program := "ytlhcgnlbhncfkaa", sum := "e0de7a95180308262fb7eb81e4318c80f3a25ef72d7fff479f7692c0a38c3fa6", func := "github.com/evanw/esbuild/n011_306.FnOptionsEqualReflexiveSymmetric", spec := "fnOptionsEqualReflexiveSymmetric", apart := false, narrowed := true }
def FnOptionsEqualReflexiveSymmetricUptoSaid : Prop := fnOptionsEqualReflexiveSymmetricUptoRow.holds Try.pinned (OpenSpec.upto fnOptionsEqualReflexiveSymmetricSpec)

/-- 'n011_275.FnComplexTermCountAddsOverConcatenation', WHERE WHAT IT READS IS OF BULK AT MOST 1048576: true; the input reads as it did. -/
def fnComplexTermCountAddsOverConcatenationUptoRow : OpenClaim := { program := "ytlhcgnlbhncfkaa", sum := "e0de7a95180308262fb7eb81e4318c80f3a25ef72d7fff479f7692c0a38c3fa6", func := "github.com/evanw/esbuild/n011_275.FnComplexTermCountAddsOverConcatenation", spec := "fnComplexTermCountAddsOverConcatenation", recurses := true, apart := false, narrowed := true }
def FnComplexTermCountAddsOverConcatenationUptoSaid : Prop := fnComplexTermCountAddsOverConcatenationUptoRow.holds Try.pinned (OpenSpec.upto fnComplexTermCountAddsOverConcatenationSpec)

/-- 'n011_87.FnContainsDeadSelectorsSplitReverse', WHERE WHAT IT READS IS OF BULK AT MOST 1048576: true; the input reads as it did. -/
def fnContainsDeadSelectorsSplitReverseUptoRow : OpenClaim := { program := "ytlhcgnlbhncfkaa", sum := "e0de7a95180308262fb7eb81e4318c80f3a25ef72d7fff479f7692c0a38c3fa6", func := "github.com/evanw/esbuild/n011_87.FnContainsDeadSelectorsSplitReverse", spec := "fnContainsDeadSelectorsSplitReverse", apart := false, narrowed := true }
def FnContainsDeadSelectorsSplitReverseUptoSaid : Prop := fnContainsDeadSelectorsSplitReverseUptoRow.holds Try.pinned (OpenSpec.upto fnContainsDeadSelectorsSplitReverseSpec)

end Rows
end Go.Proofs.Ytlhcgnlbhncfkaa
