/-
  DERIVED. GIVEN WITH THE SEED: THE CARDS: each row of YtgjoklbljmpkgaaFmtRows.lean that lists a variable, with what it lists TIED to the program's text (the seventh form; the later family's looks); each row that meets fmt, with fmt's text TOLD by the authors' own Lean function (tested against real Go, not proved from fmt's source: count such statements apart). THE CARD IS WHAT COUNTS. Prove the row's statement (the work); the ties are given (YtgjoklbljmpkgaaFmtTie.lean); close each card by the builder's one call (the guide's Derived/Test/ToyasCard.lean, 'card_holds'). Laid BY PROGRAM, IN A SANDBOX (cutbox-door.mjs). By AI agents, Wed Nov 11 2026. No macro, syntax, notation, axiom, sorry.
-/
import Derived.Test.YtgjoklbljmpkgaaFmtRows
import GoSem.ClaimSeven
namespace Go.Proofs.YtgjoklbljmpkgaaFmt
namespace Rows

/-- THE TOLD AND TIED CARD OF 'n011_269.FnComposesIdentsMatchFirstOccurrenceModel'. -/
def fnComposesIdentsMatchFirstOccurrenceModelCard : Claim7 := { stood := { row := fnComposesIdentsMatchFirstOccurrenceModelRow, standIns := [], harness := (true, "fb2d0f368a1a2aafcba88db16e32fc1d04719dd87f9ffa0f553c55da31ee9a9e"), looks := false }, told := true, laidByText := true, laidKinds := [.data, .data, .data, .data, .data, .pinned, .pinned], laidTests := true, laidLooks := .later, goes := false }
def FnComposesIdentsMatchFirstOccurrenceModelToldSaid : Prop := Claim7.holds Tryf.pinned (.plain (OpenSpec.ofChange fnComposesIdentsMatchFirstOccurrenceModelSpec)) fnComposesIdentsMatchFirstOccurrenceModelCard
/-- ITS FALSE NEIGHBOUR. Refute it at one input. -/
def FnComposesIdentsMatchFirstOccurrenceModelToldWrongFalsely : Prop := Claim7.holds Tryf.pinned (.plain (OpenSpec.ofChange fnComposesIdentsMatchFirstOccurrenceModelWrong)) fnComposesIdentsMatchFirstOccurrenceModelCard

/-- THE TOLD AND TIED CARD OF 'n011_269.FnComposesFromGlobalActsAsGlobalMode'. -/
def fnComposesFromGlobalActsAsGlobalModeCard : Claim7 := { stood := { row := fnComposesFromGlobalActsAsGlobalModeRow, standIns := [], harness := (true, "fb2d0f368a1a2aafcba88db16e32fc1d04719dd87f9ffa0f553c55da31ee9a9e"), looks := false }, told := true, laidByText := true, laidKinds := [.data, .data, .data, .data, .data, .pinned, .pinned], laidTests := true, laidLooks := .later, goes := false }
def FnComposesFromGlobalActsAsGlobalModeToldSaid : Prop := Claim7.holds Tryf.pinned (.plain (OpenSpec.ofChange fnComposesFromGlobalActsAsGlobalModeSpec)) fnComposesFromGlobalActsAsGlobalModeCard
/-- ITS FALSE NEIGHBOUR. Refute it at one input. -/
def FnComposesFromGlobalActsAsGlobalModeToldWrongFalsely : Prop := Claim7.holds Tryf.pinned (.plain (OpenSpec.ofChange fnComposesFromGlobalActsAsGlobalModeWrong)) fnComposesFromGlobalActsAsGlobalModeCard
end Rows
end Go.Proofs.YtgjoklbljmpkgaaFmt
