/-
  DERIVED. GIVEN WITH THE SEED: THE CARDS: each row of YtggfffdbohmpnaaFmtRows.lean that lists a variable, with what it lists TIED to the program's text (the seventh form; the later family's looks); each row that meets fmt, with fmt's text TOLD by the authors' own Lean function (tested against real Go, not proved from fmt's source: count such statements apart). THE CARD IS WHAT COUNTS. Prove the row's statement (the work); the ties are given (YtggfffdbohmpnaaFmtTie.lean); close each card by the builder's one call (the guide's Derived/Test/ToyasCard.lean, 'card_holds'). Laid BY PROGRAM, IN A SANDBOX (cutbox-door.mjs). By AI agents, Wed Nov 11 2026. No macro, syntax, notation, axiom, sorry.
-/
import Derived.Test.YtggfffdbohmpnaaFmtRows
import GoSem.ClaimSeven
namespace Go.Proofs.YtggfffdbohmpnaaFmt
namespace Rows

/-- THE TOLD AND TIED CARD OF 'n011_99.FnParseAttributeSelectorEmptyNamespaceIsNone'. -/
def fnParseAttributeSelectorEmptyNamespaceIsNoneCard : Claim7 := { stood := { row := fnParseAttributeSelectorEmptyNamespaceIsNoneRow, standIns := [], harness := (true, "3a6c8b141cc1eea3657b357c90d55db852f3ae185ad5bdcde14925e43de50a32"), looks := false }, told := true, laidByText := true, laidKinds := [.data, .data, .pinned], laidTests := true, laidLooks := .later, goes := false }
def FnParseAttributeSelectorEmptyNamespaceIsNoneToldSaid : Prop := Claim7.holds Tryf.pinned (.plain (OpenSpec.ofChange fnParseAttributeSelectorEmptyNamespaceIsNoneSpec)) fnParseAttributeSelectorEmptyNamespaceIsNoneCard
/-- ITS FALSE NEIGHBOUR. Refute it at one input. -/
def FnParseAttributeSelectorEmptyNamespaceIsNoneToldWrongFalsely : Prop := Claim7.holds Tryf.pinned (.plain (OpenSpec.ofChange fnParseAttributeSelectorEmptyNamespaceIsNoneWrong)) fnParseAttributeSelectorEmptyNamespaceIsNoneCard

/-- THE TOLD AND TIED CARD OF 'n011_99.FnParseAttributeSelectorExact'. -/
def fnParseAttributeSelectorExactCard : Claim7 := { stood := { row := fnParseAttributeSelectorExactRow, standIns := [], harness := (true, "3a6c8b141cc1eea3657b357c90d55db852f3ae185ad5bdcde14925e43de50a32"), looks := false }, told := true, laidByText := true, laidKinds := [.data, .data, .pinned], laidTests := true, laidLooks := .later, goes := false }
def FnParseAttributeSelectorExactToldSaid : Prop := Claim7.holds Tryf.pinned (.plain (OpenSpec.ofChange fnParseAttributeSelectorExactSpec)) fnParseAttributeSelectorExactCard
/-- ITS FALSE NEIGHBOUR. Refute it at one input. -/
def FnParseAttributeSelectorExactToldWrongFalsely : Prop := Claim7.holds Tryf.pinned (.plain (OpenSpec.ofChange fnParseAttributeSelectorExactWrong)) fnParseAttributeSelectorExactCard
end Rows
end Go.Proofs.YtggfffdbohmpnaaFmt
