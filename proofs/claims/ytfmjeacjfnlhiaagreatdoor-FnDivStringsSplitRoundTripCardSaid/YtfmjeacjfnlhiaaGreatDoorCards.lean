/-
  DERIVED. GIVEN WITH THE SEED: THE CARDS: each row of YtfmjeacjfnlhiaaGreatDoorRows.lean that lists a variable, with what it lists TIED to the program's text (the seventh form; the later family's looks); each row that meets fmt, with fmt's text TOLD by the authors' own Lean function (tested against real Go, not proved from fmt's source: count such statements apart). THE CARD IS WHAT COUNTS. Prove the row's statement (the work); the ties are given (YtfmjeacjfnlhiaaGreatDoorTie.lean); close each card by the builder's one call (the guide's Derived/Test/ToyasCard.lean, 'card_holds'). Laid BY PROGRAM, IN A SANDBOX (cutbox-door.mjs). By AI agents, Wed Nov 11 2026. No macro, syntax, notation, axiom, sorry.
-/
import Derived.Test.YtfmjeacjfnlhiaaGreatDoorRows
import GoSem.ClaimSeven
namespace Go.Proofs.YtfmjeacjfnlhiaaGreatDoor
namespace Rows

/-- THE TIED CARD OF 'n001_79.FnDivIntsTable'. -/
def fnDivIntsTableCard : Claim7 := { stood := { row := fnDivIntsTableRow, standIns := [], harness := (true, "cc1684f18a0322d4267030a7811c827d1d24fc7e9bf876289be6a4c6684ecbcb"), looks := true }, kinds := [], alts := [], laidByText := true, laidKinds := [.data, .data, .widerDeep, .widerDeep, .data, .data, .data, .data, .data, .data, .sentinel, .sentinel, .sentinel, .sentinel, .sentinel, .data, .data, .data, .data, .data, .pinned, .pinned, .pinned], laidTests := true, laidLooks := .later }
def FnDivIntsTableCardSaid : Prop := Claim7.holds Tryz.pinned (.plain (OpenSpec.ofChange fnDivIntsTableSpec)) fnDivIntsTableCard

/-- THE TIED CARD OF 'n001_79.FnDivStringsSplitRoundTrip'. -/
def fnDivStringsSplitRoundTripCard : Claim7 := { stood := { row := fnDivStringsSplitRoundTripRow, standIns := [], harness := (true, "cc1684f18a0322d4267030a7811c827d1d24fc7e9bf876289be6a4c6684ecbcb"), looks := true }, kinds := [], alts := [], laidByText := true, laidKinds := [.data, .data, .widerDeep, .widerDeep, .data, .data, .data, .data, .data, .data, .sentinel, .sentinel, .sentinel, .sentinel, .sentinel, .data, .data, .data, .data, .data, .pinned, .pinned, .pinned], laidTests := true, laidLooks := .later }
def FnDivStringsSplitRoundTripCardSaid : Prop := Claim7.holds Tryz.pinned (.plain (OpenSpec.ofChange fnDivStringsSplitRoundTripSpec)) fnDivStringsSplitRoundTripCard

/-- THE SECOND FORM's CARD OF 'n001_79.FnDivIntsTable'. -/
def fnDivIntsTableUptoCard : Claim7 := { stood := { row := fnDivIntsTableUptoRow, standIns := [], harness := (true, "cc1684f18a0322d4267030a7811c827d1d24fc7e9bf876289be6a4c6684ecbcb"), looks := true }, kinds := [], alts := [], laidByText := true, laidKinds := [.data, .data, .widerDeep, .widerDeep, .data, .data, .data, .data, .data, .data, .sentinel, .sentinel, .sentinel, .sentinel, .sentinel, .data, .data, .data, .data, .data, .pinned, .pinned, .pinned], laidTests := true, laidLooks := .later }
def FnDivIntsTableUptoCardSaid : Prop := Claim7.holds Tryz.pinned (.plain (OpenSpec.upto fnDivIntsTableSpec)) fnDivIntsTableUptoCard

/-- THE SECOND FORM's CARD OF 'n001_79.FnDivStringsSplitRoundTrip'. -/
def fnDivStringsSplitRoundTripUptoCard : Claim7 := { stood := { row := fnDivStringsSplitRoundTripUptoRow, standIns := [], harness := (true, "cc1684f18a0322d4267030a7811c827d1d24fc7e9bf876289be6a4c6684ecbcb"), looks := true }, kinds := [], alts := [], laidByText := true, laidKinds := [.data, .data, .widerDeep, .widerDeep, .data, .data, .data, .data, .data, .data, .sentinel, .sentinel, .sentinel, .sentinel, .sentinel, .data, .data, .data, .data, .data, .pinned, .pinned, .pinned], laidTests := true, laidLooks := .later }
def FnDivStringsSplitRoundTripUptoCardSaid : Prop := Claim7.holds Tryz.pinned (.plain (OpenSpec.upto fnDivStringsSplitRoundTripSpec)) fnDivStringsSplitRoundTripUptoCard
end Rows
end Go.Proofs.YtfmjeacjfnlhiaaGreatDoor
