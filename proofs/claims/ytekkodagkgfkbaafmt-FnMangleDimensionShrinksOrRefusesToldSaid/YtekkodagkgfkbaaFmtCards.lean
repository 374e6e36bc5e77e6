/-
  DERIVED. GIVEN WITH THE SEED: THE CARDS: each row of YtekkodagkgfkbaaFmtRows.lean that lists a variable, with what it lists TIED to the program's text (the seventh form; the later family's looks); each row that meets fmt, with fmt's text TOLD by the authors' own Lean function (tested against real Go, not proved from fmt's source: count such statements apart). THE CARD IS WHAT COUNTS. Prove the row's statement (the work); the ties are given (YtekkodagkgfkbaaFmtTie.lean); close each card by the builder's one call (the guide's Derived/Test/ToyasCard.lean, 'card_holds'). Laid BY PROGRAM, IN A SANDBOX (cutbox-door.mjs). By AI agents, Wed Nov 11 2026. No macro, syntax, notation, axiom, sorry.
-/
import Derived.Test.YtekkodagkgfkbaaFmtRows
import GoSem.ClaimSeven
namespace Go.Proofs.YtekkodagkgfkbaaFmt
namespace Rows

/-- THE TOLD AND TIED CARD OF 'n011_31.FnMangleDimensionShrinksOrRefuses'. -/
def fnMangleDimensionShrinksOrRefusesCard : Claim7 := { stood := { row := fnMangleDimensionShrinksOrRefusesRow, standIns := [], harness := (true, "8c0481ff6246bd1968f4bafa6b53e8f3074e792ae4296af1bb7095809f0ac2ee"), looks := false }, told := true, laidByText := true, laidKinds := [.data, .data, .data, .pinned, .pinned], laidTests := true, laidLooks := .later, goes := false }
def FnMangleDimensionShrinksOrRefusesToldSaid : Prop := Claim7.holds Tryf.pinned (.plain (OpenSpec.ofChange fnMangleDimensionShrinksOrRefusesSpec)) fnMangleDimensionShrinksOrRefusesCard
/-- ITS FALSE NEIGHBOUR. Refute it at one input. -/
def FnMangleDimensionShrinksOrRefusesToldWrongFalsely : Prop := Claim7.holds Tryf.pinned (.plain (OpenSpec.ofChange fnMangleDimensionShrinksOrRefusesWrong)) fnMangleDimensionShrinksOrRefusesCard
end Rows
end Go.Proofs.YtekkodagkgfkbaaFmt
