/-
  DERIVED. GIVEN WITH THE SEED: THE CARDS: each row of YtlhndkonhjjcgaaGreatDoorRows.lean that lists a variable, with what it lists TIED to the program's text (the seventh form; the later family's looks); each row that meets fmt, with fmt's text TOLD by the authors' own Lean function (tested against real Go, not proved from fmt's source: count such statements apart). THE CARD IS WHAT COUNTS. Prove the row's statement (the work); the ties are given (YtlhndkonhjjcgaaGreatDoorTie.lean); close each card by the builder's one call (the guide's Derived/Test/ToyasCard.lean, 'card_holds'). Laid BY PROGRAM, IN A SANDBOX (cutbox-door.mjs). By AI agents, Wed Nov 11 2026. No macro, syntax, notation, axiom, sorry.
-/
import Derived.Test.YtlhndkonhjjcgaaGreatDoorRows
import GoSem.ClaimSeven
namespace Go.Proofs.YtlhndkonhjjcgaaGreatDoor
namespace Rows

/-- THE TIED CARD OF 'n001_97.FnFlattenDepthsCompose'. -/
def fnFlattenDepthsComposeCard : Claim7 := { stood := { row := fnFlattenDepthsComposeRow, standIns := [], harness := (true, "82bc7a4d03ff3eeacd2b6e633c72fbeb6518e4ab2f35fce0f1b67ec59819b46e"), looks := true }, kinds := [], alts := [], laidByText := true, laidKinds := [.data, .data, .widerDeep, .widerDeep, .data, .data, .data, .data, .data, .sentinel, .sentinel, .data, .data, .data, .data, .data, .pinned, .pinned], laidTests := true, laidLooks := .later }
def FnFlattenDepthsComposeCardSaid : Prop := Claim7.holds Tryz.pinned (.plain (OpenSpec.ofChange fnFlattenDepthsComposeSpec)) fnFlattenDepthsComposeCard

/-- THE TIED CARD OF 'n001_97.FnFlattenMatchesLevelModel'. -/
def fnFlattenMatchesLevelModelCard : Claim7 := { stood := { row := fnFlattenMatchesLevelModelRow, standIns := [], harness := (true, "82bc7a4d03ff3eeacd2b6e633c72fbeb6518e4ab2f35fce0f1b67ec59819b46e"), looks := true }, kinds := [], alts := [], laidByText := true, laidKinds := [.data, .data, .widerDeep, .widerDeep, .data, .data, .data, .data, .data, .sentinel, .sentinel, .data, .data, .data, .data, .data, .pinned, .pinned], laidTests := true, laidLooks := .later }
def FnFlattenMatchesLevelModelCardSaid : Prop := Claim7.holds Tryz.pinned (.plain (OpenSpec.ofChange fnFlattenMatchesLevelModelSpec)) fnFlattenMatchesLevelModelCard

/-- THE SECOND FORM's CARD OF 'n001_97.FnFlattenDepthsCompose'. -/
def fnFlattenDepthsComposeUptoCard : Claim7 := { stood := { row := fnFlattenDepthsComposeUptoRow, standIns := [], harness := (true, "82bc7a4d03ff3eeacd2b6e633c72fbeb6518e4ab2f35fce0f1b67ec59819b46e"), looks := true }, kinds := [], alts := [], laidByText := true, laidKinds := [.data, .data, .widerDeep, .widerDeep, .data, .data, .data, .data, .data, .sentinel, .sentinel, .data, .data, .data, .data, .data, .pinned, .pinned], laidTests := true, laidLooks := .later }
def FnFlattenDepthsComposeUptoCardSaid : Prop := Claim7.holds Tryz.pinned (.plain (OpenSpec.upto fnFlattenDepthsComposeSpec)) fnFlattenDepthsComposeUptoCard

/-- THE SECOND FORM's CARD OF 'n001_97.FnFlattenMatchesLevelModel'. -/
def fnFlattenMatchesLevelModelUptoCard : Claim7 := { stood := { row := fnFlattenMatchesLevelModelUptoRow, standIns := [], harness := (true, "82bc7a4d03ff3eeacd2b6e633c72fbeb6518e4ab2f35fce0f1b67ec59819b46e"), looks := true }, kinds := [], alts := [], laidByText := true, laidKinds := [.data, .data, .widerDeep, .widerDeep, .data, .data, .data, .data, .data, .sentinel, .sentinel, .data, .data, .data, .data, .data, .pinned, .pinned], laidTests := true, laidLooks := .later }
def FnFlattenMatchesLevelModelUptoCardSaid : Prop := Claim7.holds Tryz.pinned (.plain (OpenSpec.upto fnFlattenMatchesLevelModelSpec)) fnFlattenMatchesLevelModelUptoCard
end Rows
end Go.Proofs.YtlhndkonhjjcgaaGreatDoor
