/-
  DERIVED. GIVEN WITH THE SEED: THE CARDS: each row of YtjebnjjhdefejaaFmtRows.lean that lists a variable, with what it lists TIED to the program's text (the seventh form; the later family's looks); each row that meets fmt, with fmt's text TOLD by the authors' own Lean function (tested against real Go, not proved from fmt's source: count such statements apart). THE CARD IS WHAT COUNTS. Prove the row's statement (the work); the ties are given (YtjebnjjhdefejaaFmtTie.lean); close each card by the builder's one call (the guide's Derived/Test/ToyasCard.lean, 'card_holds'). Laid BY PROGRAM, IN A SANDBOX (cutbox-door.mjs). By AI agents, Wed Nov 11 2026. No macro, syntax, notation, axiom, sorry.
-/
import Derived.Test.YtjebnjjhdefejaaFmtRows
import GoSem.ClaimSeven
namespace Go.Proofs.YtjebnjjhdefejaaFmt
namespace Rows

/-- THE TOLD AND TIED CARD OF 'n011_275.FnLowerNestingInRulesRemainingIsIdempotent'. -/
def fnLowerNestingInRulesRemainingIsIdempotentCard : Claim7 := { stood := { row := fnLowerNestingInRulesRemainingIsIdempotentRow, standIns := [], harness := (true, "94807e0d099427fb742d73eeb40a966f6bbd6c4bb07b73cee4db18576e412597"), looks := true }, told := true, laidByText := true, laidKinds := [.data, .pinned], laidTests := true, laidLooks := .later, goes := false }
def FnLowerNestingInRulesRemainingIsIdempotentToldSaid : Prop := Claim7.holds Tryf.pinned (.plain (OpenSpec.ofChange fnLowerNestingInRulesRemainingIsIdempotentSpec)) fnLowerNestingInRulesRemainingIsIdempotentCard
/-- ITS FALSE NEIGHBOUR. Refute it at one input. -/
def FnLowerNestingInRulesRemainingIsIdempotentToldWrongFalsely : Prop := Claim7.holds Tryf.pinned (.plain (OpenSpec.ofChange fnLowerNestingInRulesRemainingIsIdempotentWrong)) fnLowerNestingInRulesRemainingIsIdempotentCard
end Rows
end Go.Proofs.YtjebnjjhdefejaaFmt
