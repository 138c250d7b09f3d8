/-
  DERIVED. GIVEN WITH THE SEED: THE CARDS: each row of YtlhkbdeceogjgaaGreatDoorRows.lean that lists a variable, with what it lists TIED to the program's text (the seventh form; the later family's looks); each row that meets fmt, with fmt's text TOLD by the authors' own Lean function (tested against real Go, not proved from fmt's source: count such statements apart). THE CARD IS WHAT COUNTS. Prove the row's statement (the work); the ties are given (YtlhkbdeceogjgaaGreatDoorTie.lean); close each card by the builder's one call (the guide's Derived/Test/ToyasCard.lean, 'card_holds'). Laid BY PROGRAM, IN A SANDBOX (cutbox-door.mjs). By AI agents, Wed Nov 11 2026. No macro, syntax, notation, axiom, sorry.
-/
import Derived.Test.YtlhkbdeceogjgaaGreatDoorRows
import GoSem.ClaimSeven
namespace Go.Proofs.YtlhkbdeceogjgaaGreatDoor
namespace Rows

/-- THE TIED CARD OF 'n001_88.FnFrexpMatchesNormalisation'. -/
def fnFrexpMatchesNormalisationCard : Claim7 := { stood := { row := fnFrexpMatchesNormalisationRow, standIns := [], harness := (true, "0fcad0a1c0757c4753e01c2a5aa4959e64b5773d8626cd3e889d8590a9fc62fc"), looks := true }, kinds := [], alts := [], laidByText := true, laidKinds := [.data, .data, .widerDeep, .widerDeep, .data, .data, .data, .data, .data, .sentinel, .sentinel, .data, .data, .data, .data, .data, .pinned, .pinned], laidTests := true, laidLooks := .later }
def FnFrexpMatchesNormalisationCardSaid : Prop := Claim7.holds Tryz.pinned (.plain (OpenSpec.ofChange fnFrexpMatchesNormalisationSpec)) fnFrexpMatchesNormalisationCard

/-- THE TIED CARD OF 'n001_88.FnModfMatchesBinaryTruncation'. -/
def fnModfMatchesBinaryTruncationCard : Claim7 := { stood := { row := fnModfMatchesBinaryTruncationRow, standIns := [], harness := (true, "0fcad0a1c0757c4753e01c2a5aa4959e64b5773d8626cd3e889d8590a9fc62fc"), looks := true }, kinds := [], alts := [], laidByText := true, laidKinds := [.data, .data, .widerDeep, .widerDeep, .data, .data, .data, .data, .data, .sentinel, .sentinel, .data, .data, .data, .data, .data, .pinned, .pinned], laidTests := true, laidLooks := .later }
def FnModfMatchesBinaryTruncationCardSaid : Prop := Claim7.holds Tryz.pinned (.plain (OpenSpec.ofChange fnModfMatchesBinaryTruncationSpec)) fnModfMatchesBinaryTruncationCard

/-- THE TIED CARD OF 'n001_9.FnInsideStringIsSubstring'. -/
def fnInsideStringIsSubstringCard : Claim7 := { stood := { row := fnInsideStringIsSubstringRow, standIns := [], harness := (true, "0fcad0a1c0757c4753e01c2a5aa4959e64b5773d8626cd3e889d8590a9fc62fc"), looks := true }, kinds := [], alts := [], laidByText := true, laidKinds := [.data, .data, .widerDeep, .widerDeep, .data, .data, .data, .data, .data, .sentinel, .sentinel, .sentinel, .sentinel, .sentinel, .data, .data, .data, .data, .data, .pinned, .pinned], laidTests := true, laidLooks := .later }
def FnInsideStringIsSubstringCardSaid : Prop := Claim7.holds Tryz.pinned (.plain (OpenSpec.ofChange fnInsideStringIsSubstringSpec)) fnInsideStringIsSubstringCard

/-- THE TIED CARD OF 'n001_9.FnIndicesMirror'. -/
def fnIndicesMirrorCard : Claim7 := { stood := { row := fnIndicesMirrorRow, standIns := [], harness := (true, "0fcad0a1c0757c4753e01c2a5aa4959e64b5773d8626cd3e889d8590a9fc62fc"), looks := true }, kinds := [], alts := [], laidByText := true, laidKinds := [.data, .data, .widerDeep, .widerDeep, .data, .data, .data, .data, .data, .sentinel, .sentinel, .sentinel, .sentinel, .sentinel, .data, .data, .data, .data, .data, .pinned, .pinned], laidTests := true, laidLooks := .later }
def FnIndicesMirrorCardSaid : Prop := Claim7.holds Tryz.pinned (.plain (OpenSpec.ofChange fnIndicesMirrorSpec)) fnIndicesMirrorCard

/-- THE TIED CARD OF 'n001_74.FnPlusAgreesWithAddingZero'. -/
def fnPlusAgreesWithAddingZeroCard : Claim7 := { stood := { row := fnPlusAgreesWithAddingZeroRow, standIns := [], harness := (true, "0fcad0a1c0757c4753e01c2a5aa4959e64b5773d8626cd3e889d8590a9fc62fc"), looks := true }, kinds := [], alts := [], laidByText := true, laidKinds := [.data, .data, .widerDeep, .widerDeep, .data, .data, .data, .data, .data, .sentinel, .sentinel, .sentinel, .sentinel, .sentinel, .data, .data, .data, .data, .data, .pinned, .pinned], laidTests := true, laidLooks := .later }
def FnPlusAgreesWithAddingZeroCardSaid : Prop := Claim7.holds Tryz.pinned (.plain (OpenSpec.ofChange fnPlusAgreesWithAddingZeroSpec)) fnPlusAgreesWithAddingZeroCard

/-- THE TIED CARD OF 'n001_9.FnInsideIntsIsInclusion'. -/
def fnInsideIntsIsInclusionCard : Claim7 := { stood := { row := fnInsideIntsIsInclusionRow, standIns := [], harness := (true, "0fcad0a1c0757c4753e01c2a5aa4959e64b5773d8626cd3e889d8590a9fc62fc"), looks := true }, kinds := [], alts := [], laidByText := true, laidKinds := [.data, .data, .widerDeep, .widerDeep, .data, .data, .data, .data, .data, .sentinel, .sentinel, .sentinel, .sentinel, .sentinel, .data, .data, .data, .data, .data, .pinned, .pinned], laidTests := true, laidLooks := .later }
def FnInsideIntsIsInclusionCardSaid : Prop := Claim7.holds Tryz.pinned (.plain (OpenSpec.ofChange fnInsideIntsIsInclusionSpec)) fnInsideIntsIsInclusionCard

/-- THE TIED CARD OF 'n001_67.FnMinMaxByReverseComplementDuality'. -/
def fnMinMaxByReverseComplementDualityCard : Claim7 := { stood := { row := fnMinMaxByReverseComplementDualityRow, standIns := [], harness := (true, "0fcad0a1c0757c4753e01c2a5aa4959e64b5773d8626cd3e889d8590a9fc62fc"), looks := true }, kinds := [], alts := [], laidByText := true, laidKinds := [.data, .data, .widerDeep, .widerDeep, .data, .data, .data, .data, .data, .sentinel, .sentinel, .sentinel, .sentinel, .sentinel, .data, .data, .data, .data, .data, .pinned, .pinned], laidTests := true, laidLooks := .later }
def FnMinMaxByReverseComplementDualityCardSaid : Prop := Claim7.holds Tryz.pinned (.plain (OpenSpec.ofChange fnMinMaxByReverseComplementDualitySpec)) fnMinMaxByReverseComplementDualityCard

/-- THE TIED CARD OF 'n001_74.FnCompareDispatchCaseTable'. -/
def fnCompareDispatchCaseTableCard : Claim7 := { stood := { row := fnCompareDispatchCaseTableRow, standIns := [], harness := (true, "0fcad0a1c0757c4753e01c2a5aa4959e64b5773d8626cd3e889d8590a9fc62fc"), looks := true }, kinds := [], alts := [], laidByText := true, laidKinds := [.data, .data, .widerDeep, .widerDeep, .data, .data, .data, .data, .data, .sentinel, .sentinel, .sentinel, .sentinel, .sentinel, .data, .data, .data, .data, .data, .pinned, .pinned], laidTests := true, laidLooks := .later }
def FnCompareDispatchCaseTableCardSaid : Prop := Claim7.holds Tryz.pinned (.plain (OpenSpec.ofChange fnCompareDispatchCaseTableSpec)) fnCompareDispatchCaseTableCard

/-- THE TIED CARD OF 'n001_67.FnMaxIsGreatestElement'. -/
def fnMaxIsGreatestElementCard : Claim7 := { stood := { row := fnMaxIsGreatestElementRow, standIns := [], harness := (true, "0fcad0a1c0757c4753e01c2a5aa4959e64b5773d8626cd3e889d8590a9fc62fc"), looks := true }, kinds := [], alts := [], laidByText := true, laidKinds := [.data, .data, .widerDeep, .widerDeep, .data, .data, .data, .data, .data, .sentinel, .sentinel, .sentinel, .sentinel, .sentinel, .data, .data, .data, .data, .data, .pinned, .pinned], laidTests := true, laidLooks := .later }
def FnMaxIsGreatestElementCardSaid : Prop := Claim7.holds Tryz.pinned (.plain (OpenSpec.ofChange fnMaxIsGreatestElementSpec)) fnMaxIsGreatestElementCard

/-- THE SECOND FORM's CARD OF 'n001_88.FnFrexpMatchesNormalisation'. -/
def fnFrexpMatchesNormalisationUptoCard : Claim7 := { stood := { row := fnFrexpMatchesNormalisationUptoRow, standIns := [], harness := (true, "0fcad0a1c0757c4753e01c2a5aa4959e64b5773d8626cd3e889d8590a9fc62fc"), looks := true }, kinds := [], alts := [], laidByText := true, laidKinds := [.data, .data, .widerDeep, .widerDeep, .data, .data, .data, .data, .data, .sentinel, .sentinel, .data, .data, .data, .data, .data, .pinned, .pinned], laidTests := true, laidLooks := .later }
def FnFrexpMatchesNormalisationUptoCardSaid : Prop := Claim7.holds Tryz.pinned (.plain (OpenSpec.upto fnFrexpMatchesNormalisationSpec)) fnFrexpMatchesNormalisationUptoCard

/-- THE SECOND FORM's CARD OF 'n001_88.FnModfMatchesBinaryTruncation'. -/
def fnModfMatchesBinaryTruncationUptoCard : Claim7 := { stood := { row := fnModfMatchesBinaryTruncationUptoRow, standIns := [], harness := (true, "0fcad0a1c0757c4753e01c2a5aa4959e64b5773d8626cd3e889d8590a9fc62fc"), looks := true }, kinds := [], alts := [], laidByText := true, laidKinds := [.data, .data, .widerDeep, .widerDeep, .data, .data, .data, .data, .data, .sentinel, .sentinel, .data, .data, .data, .data, .data, .pinned, .pinned], laidTests := true, laidLooks := .later }
def FnModfMatchesBinaryTruncationUptoCardSaid : Prop := Claim7.holds Tryz.pinned (.plain (OpenSpec.upto fnModfMatchesBinaryTruncationSpec)) fnModfMatchesBinaryTruncationUptoCard

/-- THE SECOND FORM's CARD OF 'n001_9.FnInsideStringIsSubstring'. -/
def fnInsideStringIsSubstringUptoCard : Claim7 := { stood := { row := fnInsideStringIsSubstringUptoRow, standIns := [], harness := (true, "0fcad0a1c0757c4753e01c2a5aa4959e64b5773d8626cd3e889d8590a9fc62fc"), looks := true }, kinds := [], alts := [], laidByText := true, laidKinds := [.data, .data, .widerDeep, .widerDeep, .data, .data, .data, .data, .data, .sentinel, .sentinel, .sentinel, .sentinel, .sentinel, .data, .data, .data, .data, .data, .pinned, .pinned], laidTests := true, laidLooks := .later }
def FnInsideStringIsSubstringUptoCardSaid : Prop := Claim7.holds Tryz.pinned (.plain (OpenSpec.upto fnInsideStringIsSubstringSpec)) fnInsideStringIsSubstringUptoCard

/-- THE SECOND FORM's CARD OF 'n001_9.FnIndicesMirror'. -/
def fnIndicesMirrorUptoCard : Claim7 := { stood := { row := fnIndicesMirrorUptoRow, standIns := [], harness := (true, "0fcad0a1c0757c4753e01c2a5aa4959e64b5773d8626cd3e889d8590a9fc62fc"), looks := true }, kinds := [], alts := [], laidByText := true, laidKinds := [.data, .data, .widerDeep, .widerDeep, .data, .data, .data, .data, .data, .sentinel, .sentinel, .sentinel, .sentinel, .sentinel, .data, .data, .data, .data, .data, .pinned, .pinned], laidTests := true, laidLooks := .later }
def FnIndicesMirrorUptoCardSaid : Prop := Claim7.holds Tryz.pinned (.plain (OpenSpec.upto fnIndicesMirrorSpec)) fnIndicesMirrorUptoCard

/-- THE SECOND FORM's CARD OF 'n001_74.FnPlusAgreesWithAddingZero'. -/
def fnPlusAgreesWithAddingZeroUptoCard : Claim7 := { stood := { row := fnPlusAgreesWithAddingZeroUptoRow, standIns := [], harness := (true, "0fcad0a1c0757c4753e01c2a5aa4959e64b5773d8626cd3e889d8590a9fc62fc"), looks := true }, kinds := [], alts := [], laidByText := true, laidKinds := [.data, .data, .widerDeep, .widerDeep, .data, .data, .data, .data, .data, .sentinel, .sentinel, .sentinel, .sentinel, .sentinel, .data, .data, .data, .data, .data, .pinned, .pinned], laidTests := true, laidLooks := .later }
def FnPlusAgreesWithAddingZeroUptoCardSaid : Prop := Claim7.holds Tryz.pinned (.plain (OpenSpec.upto fnPlusAgreesWithAddingZeroSpec)) fnPlusAgreesWithAddingZeroUptoCard

/-- THE SECOND FORM's CARD OF 'n001_9.FnInsideIntsIsInclusion'. -/
def fnInsideIntsIsInclusionUptoCard : Claim7 := { stood := { row := fnInsideIntsIsInclusionUptoRow, standIns := [], harness := (true, "0fcad0a1c0757c4753e01c2a5aa4959e64b5773d8626cd3e889d8590a9fc62fc"), looks := true }, kinds := [], alts := [], laidByText := true, laidKinds := [.data, .data, .widerDeep, .widerDeep, .data, .data, .data, .data, .data, .sentinel, .sentinel, .sentinel, .sentinel, .sentinel, .data, .data, .data, .data, .data, .pinned, .pinned], laidTests := true, laidLooks := .later }
def FnInsideIntsIsInclusionUptoCardSaid : Prop := Claim7.holds Tryz.pinned (.plain (OpenSpec.upto fnInsideIntsIsInclusionSpec)) fnInsideIntsIsInclusionUptoCard

/-- THE SECOND FORM's CARD OF 'n001_67.FnMinMaxByReverseComplementDuality'. -/
def fnMinMaxByReverseComplementDualityUptoCard : Claim7 := { stood := { row := fnMinMaxByReverseComplementDualityUptoRow, standIns := [], harness := (true, "0fcad0a1c0757c4753e01c2a5aa4959e64b5773d8626cd3e889d8590a9fc62fc"), looks := true }, kinds := [], alts := [], laidByText := true, laidKinds := [.data, .data, .widerDeep, .widerDeep, .data, .data, .data, .data, .data, .sentinel, .sentinel, .sentinel, .sentinel, .sentinel, .data, .data, .data, .data, .data, .pinned, .pinned], laidTests := true, laidLooks := .later }
def FnMinMaxByReverseComplementDualityUptoCardSaid : Prop := Claim7.holds Tryz.pinned (.plain (OpenSpec.upto fnMinMaxByReverseComplementDualitySpec)) fnMinMaxByReverseComplementDualityUptoCard

/-- THE SECOND FORM's CARD OF 'n001_74.FnCompareDispatchCaseTable'. -/
def fnCompareDispatchCaseTableUptoCard : Claim7 := { stood := { row := fnCompareDispatchCaseTableUptoRow, standIns := [], harness := (true, "0fcad0a1c0757c4753e01c2a5aa4959e64b5773d8626cd3e889d8590a9fc62fc"), looks := true }, kinds := [], alts := [], laidByText := true, laidKinds := [.data, .data, .widerDeep, .widerDeep, .data, .data, .data, .data, .data, .sentinel, .sentinel, .sentinel, .sentinel, .sentinel, .data, .data, .data, .data, .data, .pinned, .pinned], laidTests := true, laidLooks := .later }
def FnCompareDispatchCaseTableUptoCardSaid : Prop := Claim7.holds Tryz.pinned (.plain (OpenSpec.upto fnCompareDispatchCaseTableSpec)) fnCompareDispatchCaseTableUptoCard

/-- THE SECOND FORM's CARD OF 'n001_67.FnMaxIsGreatestElement'. -/
def fnMaxIsGreatestElementUptoCard : Claim7 := { stood := { row := fnMaxIsGreatestElementUptoRow, standIns := [], harness := (true, "0fcad0a1c0757c4753e01c2a5aa4959e64b5773d8626cd3e889d8590a9fc62fc"), looks := true }, kinds := [], alts := [], laidByText := true, laidKinds := [.data, .data, .widerDeep, .widerDeep, .data, .data, .data, .data, .data, .sentinel, .sentinel, .sentinel, .sentinel, .sentinel, .data, .data, .data, .data, .data, .pinned, .pinned], laidTests := true, laidLooks := .later }
def FnMaxIsGreatestElementUptoCardSaid : Prop := Claim7.holds Tryz.pinned (.plain (OpenSpec.upto fnMaxIsGreatestElementSpec)) fnMaxIsGreatestElementUptoCard
end Rows
end Go.Proofs.YtlhkbdeceogjgaaGreatDoor
