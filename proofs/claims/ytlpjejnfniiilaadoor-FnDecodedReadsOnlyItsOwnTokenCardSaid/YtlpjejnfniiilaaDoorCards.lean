/-
  DERIVED. GIVEN WITH THE SEED: THE CARDS: each row of YtlpjejnfniiilaaDoorRows.lean that lists a variable, with what it lists TIED to the program's text (the seventh form; the later family's looks); each row that meets fmt, with fmt's text TOLD by the authors' own Lean function (tested against real Go, not proved from fmt's source: count such statements apart). THE CARD IS WHAT COUNTS. Prove the row's statement (the work); the ties are given (YtlpjejnfniiilaaDoorTie.lean); close each card by the builder's one call (the guide's Derived/Test/ToyasCard.lean, 'card_holds'). Laid BY PROGRAM, IN A SANDBOX (cutbox-door.mjs). By AI agents, Wed Nov 11 2026. No macro, syntax, notation, axiom, sorry.
-/
import Derived.Test.YtlpjejnfniiilaaDoorRows
import GoSem.ClaimSeven
namespace Go.Proofs.YtlpjejnfniiilaaDoor
namespace Rows

/-- THE TIED CARD OF 'n011_282.FnIncludeUnitOfOrderFreeAndIdempotent'. -/
def fnIncludeUnitOfOrderFreeAndIdempotentCard : Claim7 := { stood := { row := fnIncludeUnitOfOrderFreeAndIdempotentRow, standIns := [], harness := (true, "aa9b387934e155838ed0519d05120b133b5078e3c125201014b215be036368f1"), looks := false }, kinds := [], alts := [], laidByText := true, laidKinds := [.data, .pinned, .pinned], laidTests := true, laidLooks := .later }
def FnIncludeUnitOfOrderFreeAndIdempotentCardSaid : Prop := Claim7.holds Tryd.pinned (.plain (OpenSpec.ofChange fnIncludeUnitOfOrderFreeAndIdempotentSpec)) fnIncludeUnitOfOrderFreeAndIdempotentCard

/-- THE TIED CARD OF 'n011_283.FnDecodedReadsOnlyItsOwnToken'. -/
def fnDecodedReadsOnlyItsOwnTokenCard : Claim7 := { stood := { row := fnDecodedReadsOnlyItsOwnTokenRow, standIns := [], harness := (true, "aa9b387934e155838ed0519d05120b133b5078e3c125201014b215be036368f1"), looks := false }, kinds := [], alts := [], laidByText := true, laidKinds := [.data, .pinned], laidTests := true, laidLooks := .later }
def FnDecodedReadsOnlyItsOwnTokenCardSaid : Prop := Claim7.holds Tryd.pinned (.plain (OpenSpec.ofChange fnDecodedReadsOnlyItsOwnTokenSpec)) fnDecodedReadsOnlyItsOwnTokenCard

/-- THE SECOND FORM's CARD OF 'n011_282.FnIncludeUnitOfOrderFreeAndIdempotent'. -/
def fnIncludeUnitOfOrderFreeAndIdempotentUptoCard : Claim7 := { stood := { row := fnIncludeUnitOfOrderFreeAndIdempotentUptoRow, standIns := [], harness := (true, "aa9b387934e155838ed0519d05120b133b5078e3c125201014b215be036368f1"), looks := false }, kinds := [], alts := [], laidByText := true, laidKinds := [.data, .pinned, .pinned], laidTests := true, laidLooks := .later }
def FnIncludeUnitOfOrderFreeAndIdempotentUptoCardSaid : Prop := Claim7.holds Tryd.pinned (.plain (OpenSpec.upto fnIncludeUnitOfOrderFreeAndIdempotentSpec)) fnIncludeUnitOfOrderFreeAndIdempotentUptoCard

/-- THE SECOND FORM's CARD OF 'n011_283.FnDecodedReadsOnlyItsOwnToken'. -/
def fnDecodedReadsOnlyItsOwnTokenUptoCard : Claim7 := { stood := { row := fnDecodedReadsOnlyItsOwnTokenUptoRow, standIns := [], harness := (true, "aa9b387934e155838ed0519d05120b133b5078e3c125201014b215be036368f1"), looks := false }, kinds := [], alts := [], laidByText := true, laidKinds := [.data, .pinned], laidTests := true, laidLooks := .later }
def FnDecodedReadsOnlyItsOwnTokenUptoCardSaid : Prop := Claim7.holds Tryd.pinned (.plain (OpenSpec.upto fnDecodedReadsOnlyItsOwnTokenSpec)) fnDecodedReadsOnlyItsOwnTokenUptoCard
end Rows
end Go.Proofs.YtlpjejnfniiilaaDoor
