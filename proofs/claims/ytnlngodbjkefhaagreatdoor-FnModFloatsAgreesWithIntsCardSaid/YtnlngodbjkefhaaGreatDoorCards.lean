/-
  DERIVED. GIVEN WITH THE SEED: THE CARDS: each row of YtnlngodbjkefhaaGreatDoorRows.lean that lists a variable, with what it lists TIED to the program's text (the seventh form; the later family's looks); each row that meets fmt, with fmt's text TOLD by the authors' own Lean function (tested against real Go, not proved from fmt's source: count such statements apart). THE CARD IS WHAT COUNTS. Prove the row's statement (the work); the ties are given (YtnlngodbjkefhaaGreatDoorTie.lean); close each card by the builder's one call (the guide's Derived/Test/ToyasCard.lean, 'card_holds'). Laid BY PROGRAM, IN A SANDBOX (cutbox-door.mjs). By AI agents, Wed Nov 11 2026. No macro, syntax, notation, axiom, sorry.
-/
import Derived.Test.YtnlngodbjkefhaaGreatDoorRows
import GoSem.ClaimSeven
namespace Go.Proofs.YtnlngodbjkefhaaGreatDoor
namespace Rows

/-- THE TIED CARD OF 'n001_79.FnModIntsTable'. -/
def fnModIntsTableCard : Claim7 := { stood := { row := fnModIntsTableRow, standIns := [], harness := (true, "e9408a49ac58ccf36d7d7876e7848237101372a7c682d7e6e2be45c8741efcd9"), looks := true }, kinds := [], alts := [], laidByText := true, laidKinds := [.data, .data, .widerDeep, .widerDeep, .data, .data, .data, .data, .data, .sentinel, .sentinel, .sentinel, .sentinel, .sentinel, .data, .data, .data, .data, .data, .pinned, .pinned], laidTests := true, laidLooks := .later }
def FnModIntsTableCardSaid : Prop := Claim7.holds Tryz.pinned (.plain (OpenSpec.ofChange fnModIntsTableSpec)) fnModIntsTableCard

/-- THE TIED CARD OF 'n001_79.FnModFloatsAgreesWithInts'. -/
def fnModFloatsAgreesWithIntsCard : Claim7 := { stood := { row := fnModFloatsAgreesWithIntsRow, standIns := [], harness := (true, "e9408a49ac58ccf36d7d7876e7848237101372a7c682d7e6e2be45c8741efcd9"), looks := true }, kinds := [], alts := [], laidByText := true, laidKinds := [.data, .data, .widerDeep, .widerDeep, .data, .data, .data, .data, .data, .sentinel, .sentinel, .sentinel, .sentinel, .sentinel, .data, .data, .data, .data, .data, .pinned, .pinned], laidTests := true, laidLooks := .later }
def FnModFloatsAgreesWithIntsCardSaid : Prop := Claim7.holds Tryz.pinned (.plain (OpenSpec.ofChange fnModFloatsAgreesWithIntsSpec)) fnModFloatsAgreesWithIntsCard

/-- THE TIED CARD OF 'n001_79.FnDivIntsAgreesWithFloats'. -/
def fnDivIntsAgreesWithFloatsCard : Claim7 := { stood := { row := fnDivIntsAgreesWithFloatsRow, standIns := [], harness := (true, "e9408a49ac58ccf36d7d7876e7848237101372a7c682d7e6e2be45c8741efcd9"), looks := true }, kinds := [], alts := [], laidByText := true, laidKinds := [.data, .data, .widerDeep, .widerDeep, .data, .data, .data, .data, .data, .data, .sentinel, .sentinel, .sentinel, .sentinel, .sentinel, .data, .data, .data, .data, .data, .pinned, .pinned, .pinned], laidTests := true, laidLooks := .later }
def FnDivIntsAgreesWithFloatsCardSaid : Prop := Claim7.holds Tryz.pinned (.plain (OpenSpec.ofChange fnDivIntsAgreesWithFloatsSpec)) fnDivIntsAgreesWithFloatsCard

/-- THE SECOND FORM's CARD OF 'n001_79.FnModIntsTable'. -/
def fnModIntsTableUptoCard : Claim7 := { stood := { row := fnModIntsTableUptoRow, standIns := [], harness := (true, "e9408a49ac58ccf36d7d7876e7848237101372a7c682d7e6e2be45c8741efcd9"), looks := true }, kinds := [], alts := [], laidByText := true, laidKinds := [.data, .data, .widerDeep, .widerDeep, .data, .data, .data, .data, .data, .sentinel, .sentinel, .sentinel, .sentinel, .sentinel, .data, .data, .data, .data, .data, .pinned, .pinned], laidTests := true, laidLooks := .later }
def FnModIntsTableUptoCardSaid : Prop := Claim7.holds Tryz.pinned (.plain (OpenSpec.upto fnModIntsTableSpec)) fnModIntsTableUptoCard

/-- THE SECOND FORM's CARD OF 'n001_79.FnModFloatsAgreesWithInts'. -/
def fnModFloatsAgreesWithIntsUptoCard : Claim7 := { stood := { row := fnModFloatsAgreesWithIntsUptoRow, standIns := [], harness := (true, "e9408a49ac58ccf36d7d7876e7848237101372a7c682d7e6e2be45c8741efcd9"), looks := true }, kinds := [], alts := [], laidByText := true, laidKinds := [.data, .data, .widerDeep, .widerDeep, .data, .data, .data, .data, .data, .sentinel, .sentinel, .sentinel, .sentinel, .sentinel, .data, .data, .data, .data, .data, .pinned, .pinned], laidTests := true, laidLooks := .later }
def FnModFloatsAgreesWithIntsUptoCardSaid : Prop := Claim7.holds Tryz.pinned (.plain (OpenSpec.upto fnModFloatsAgreesWithIntsSpec)) fnModFloatsAgreesWithIntsUptoCard

/-- THE SECOND FORM's CARD OF 'n001_79.FnDivIntsAgreesWithFloats'. -/
def fnDivIntsAgreesWithFloatsUptoCard : Claim7 := { stood := { row := fnDivIntsAgreesWithFloatsUptoRow, standIns := [], harness := (true, "e9408a49ac58ccf36d7d7876e7848237101372a7c682d7e6e2be45c8741efcd9"), looks := true }, kinds := [], alts := [], laidByText := true, laidKinds := [.data, .data, .widerDeep, .widerDeep, .data, .data, .data, .data, .data, .data, .sentinel, .sentinel, .sentinel, .sentinel, .sentinel, .data, .data, .data, .data, .data, .pinned, .pinned, .pinned], laidTests := true, laidLooks := .later }
def FnDivIntsAgreesWithFloatsUptoCardSaid : Prop := Claim7.holds Tryz.pinned (.plain (OpenSpec.upto fnDivIntsAgreesWithFloatsSpec)) fnDivIntsAgreesWithFloatsUptoCard
end Rows
end Go.Proofs.YtnlngodbjkefhaaGreatDoor
