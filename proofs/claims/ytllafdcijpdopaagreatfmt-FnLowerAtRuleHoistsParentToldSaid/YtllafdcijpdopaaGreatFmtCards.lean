/-
  DERIVED. GIVEN WITH THE SEED: THE CARDS: each row of YtllafdcijpdopaaGreatFmtRows.lean that lists a variable, with what it lists TIED to the program's text (the seventh form; the later family's looks); each row that meets fmt, with fmt's text TOLD by the authors' own Lean function (tested against real Go, not proved from fmt's source: count such statements apart). THE CARD IS WHAT COUNTS. Prove the row's statement (the work); the ties are given (YtllafdcijpdopaaGreatFmtTie.lean); close each card by the builder's one call (the guide's Derived/Test/ToyasCard.lean, 'card_holds'). Laid BY PROGRAM, IN A SANDBOX (cutbox-door.mjs). By AI agents, Wed Nov 11 2026. No macro, syntax, notation, axiom, sorry.
-/
import Derived.Test.YtllafdcijpdopaaGreatFmtRows
import GoSem.ClaimSeven
namespace Go.Proofs.YtllafdcijpdopaaGreatFmt
namespace Rows

/-- THE TOLD AND TIED CARD OF 'n011_82.FnLowerAtRuleHoistsParent'. -/
def fnLowerAtRuleHoistsParentCard : Claim7 := { stood := { row := fnLowerAtRuleHoistsParentRow, standIns := [], harness := (true, "ce231e58c568c3815224a4ec2d49da9ad24a1c96e9844d205efefe0b911a4701"), looks := true }, told := true, laidByText := true, laidKinds := [.data, .pinned], laidTests := true, laidLooks := .later, goes := false }
def FnLowerAtRuleHoistsParentToldSaid : Prop := Claim7.holds Tryz.pinned (.plain (OpenSpec.ofChange fnLowerAtRuleHoistsParentSpec)) fnLowerAtRuleHoistsParentCard
/-- ITS FALSE NEIGHBOUR. Refute it at one input. -/
def FnLowerAtRuleHoistsParentToldWrongFalsely : Prop := Claim7.holds Tryz.pinned (.plain (OpenSpec.ofChange fnLowerAtRuleHoistsParentWrong)) fnLowerAtRuleHoistsParentCard
end Rows
end Go.Proofs.YtllafdcijpdopaaGreatFmt
