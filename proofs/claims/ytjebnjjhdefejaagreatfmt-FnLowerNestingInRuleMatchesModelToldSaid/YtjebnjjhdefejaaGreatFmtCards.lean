/-
  DERIVED. GIVEN WITH THE SEED: THE CARDS: each row of YtjebnjjhdefejaaGreatFmtRows.lean that lists a variable, with what it lists TIED to the program's text (the seventh form; the later family's looks); each row that meets fmt, with fmt's text TOLD by the authors' own Lean function (tested against real Go, not proved from fmt's source: count such statements apart). THE CARD IS WHAT COUNTS. Prove the row's statement (the work); the ties are given (YtjebnjjhdefejaaGreatFmtTie.lean); close each card by the builder's one call (the guide's Derived/Test/ToyasCard.lean, 'card_holds'). Laid BY PROGRAM, IN A SANDBOX (cutbox-door.mjs). By AI agents, Wed Nov 11 2026. No macro, syntax, notation, axiom, sorry.
-/
import Derived.Test.YtjebnjjhdefejaaGreatFmtRows
import GoSem.ClaimSeven
namespace Go.Proofs.YtjebnjjhdefejaaGreatFmt
namespace Rows

/-- THE TOLD AND TIED CARD OF 'n011_275.FnLowerNestingInRuleMatchesModel'. -/
def fnLowerNestingInRuleMatchesModelCard : Claim7 := { stood := { row := fnLowerNestingInRuleMatchesModelRow, standIns := [], harness := (true, "05034582ad49dcdef5d5412445a9ea3610a54dde55f012e83f83a95ae09d474d"), looks := true }, told := true, laidByText := true, laidKinds := [.data, .pinned], laidTests := true, laidLooks := .later, goes := false }
def FnLowerNestingInRuleMatchesModelToldSaid : Prop := Claim7.holds Tryz.pinned (.plain (OpenSpec.ofChange fnLowerNestingInRuleMatchesModelSpec)) fnLowerNestingInRuleMatchesModelCard
/-- ITS FALSE NEIGHBOUR. Refute it at one input. -/
def FnLowerNestingInRuleMatchesModelToldWrongFalsely : Prop := Claim7.holds Tryz.pinned (.plain (OpenSpec.ofChange fnLowerNestingInRuleMatchesModelWrong)) fnLowerNestingInRuleMatchesModelCard
end Rows
end Go.Proofs.YtjebnjjhdefejaaGreatFmt
