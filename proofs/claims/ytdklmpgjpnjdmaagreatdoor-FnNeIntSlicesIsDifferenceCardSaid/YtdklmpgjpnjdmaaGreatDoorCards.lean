/-
  DERIVED. GIVEN WITH THE SEED: THE CARDS: each row of YtdklmpgjpnjdmaaGreatDoorRows.lean that lists a variable, with what it lists TIED to the program's text (the seventh form; the later family's looks); each row that meets fmt, with fmt's text TOLD by the authors' own Lean function (tested against real Go, not proved from fmt's source: count such statements apart). THE CARD IS WHAT COUNTS. Prove the row's statement (the work); the ties are given (YtdklmpgjpnjdmaaGreatDoorTie.lean); close each card by the builder's one call (the guide's Derived/Test/ToyasCard.lean, 'card_holds'). Laid BY PROGRAM, IN A SANDBOX (cutbox-door.mjs). By AI agents, Wed Nov 11 2026. No macro, syntax, notation, axiom, sorry.
-/
import Derived.Test.YtdklmpgjpnjdmaaGreatDoorRows
import GoSem.ClaimSeven
namespace Go.Proofs.YtdklmpgjpnjdmaaGreatDoor
namespace Rows

/-- THE TIED CARD OF 'n001_81.FnNeIsNegationOfEqIntFloat'. -/
def fnNeIsNegationOfEqIntFloatCard : Claim7 := { stood := { row := fnNeIsNegationOfEqIntFloatRow, standIns := [], harness := (true, "6b1f54791ff78ebef827c5b9c33744e4d3e1191598e5d4386417fd9bd9b0b27b"), looks := true }, kinds := [], alts := [], laidByText := true, laidKinds := [.data, .data, .widerDeep, .widerDeep, .data, .data, .data, .data, .data, .sentinel, .sentinel, .sentinel, .sentinel, .sentinel, .data, .data, .data, .data, .data, .pinned, .pinned], laidTests := true, laidLooks := .later }
def FnNeIsNegationOfEqIntFloatCardSaid : Prop := Claim7.holds Tryz.pinned (.plain (OpenSpec.ofChange fnNeIsNegationOfEqIntFloatSpec)) fnNeIsNegationOfEqIntFloatCard

/-- THE TIED CARD OF 'n001_81.FnEqStringsIsByteEquality'. -/
def fnEqStringsIsByteEqualityCard : Claim7 := { stood := { row := fnEqStringsIsByteEqualityRow, standIns := [], harness := (true, "6b1f54791ff78ebef827c5b9c33744e4d3e1191598e5d4386417fd9bd9b0b27b"), looks := true }, kinds := [], alts := [], laidByText := true, laidKinds := [.data, .data, .widerDeep, .widerDeep, .data, .data, .data, .data, .data, .sentinel, .sentinel, .sentinel, .sentinel, .sentinel, .data, .data, .data, .data, .data, .pinned, .pinned], laidTests := true, laidLooks := .later }
def FnEqStringsIsByteEqualityCardSaid : Prop := Claim7.holds Tryz.pinned (.plain (OpenSpec.ofChange fnEqStringsIsByteEqualitySpec)) fnEqStringsIsByteEqualityCard

/-- THE TIED CARD OF 'n001_81.FnEqIntSlicesIsElementwise'. -/
def fnEqIntSlicesIsElementwiseCard : Claim7 := { stood := { row := fnEqIntSlicesIsElementwiseRow, standIns := [], harness := (true, "6b1f54791ff78ebef827c5b9c33744e4d3e1191598e5d4386417fd9bd9b0b27b"), looks := true }, kinds := [], alts := [], laidByText := true, laidKinds := [.data, .data, .widerDeep, .widerDeep, .data, .data, .data, .data, .data, .sentinel, .sentinel, .sentinel, .sentinel, .sentinel, .data, .data, .data, .data, .data, .pinned, .pinned], laidTests := true, laidLooks := .later }
def FnEqIntSlicesIsElementwiseCardSaid : Prop := Claim7.holds Tryz.pinned (.plain (OpenSpec.ofChange fnEqIntSlicesIsElementwiseSpec)) fnEqIntSlicesIsElementwiseCard

/-- THE TIED CARD OF 'n001_81.FnNeIntSlicesIsDifference'. -/
def fnNeIntSlicesIsDifferenceCard : Claim7 := { stood := { row := fnNeIntSlicesIsDifferenceRow, standIns := [], harness := (true, "6b1f54791ff78ebef827c5b9c33744e4d3e1191598e5d4386417fd9bd9b0b27b"), looks := true }, kinds := [], alts := [], laidByText := true, laidKinds := [.data, .data, .widerDeep, .widerDeep, .data, .data, .data, .data, .data, .sentinel, .sentinel, .sentinel, .sentinel, .sentinel, .data, .data, .data, .data, .data, .pinned, .pinned], laidTests := true, laidLooks := .later }
def FnNeIntSlicesIsDifferenceCardSaid : Prop := Claim7.holds Tryz.pinned (.plain (OpenSpec.ofChange fnNeIntSlicesIsDifferenceSpec)) fnNeIntSlicesIsDifferenceCard

/-- THE TIED CARD OF 'n001_81.FnGtIntSlicesIsLexicographic'. -/
def fnGtIntSlicesIsLexicographicCard : Claim7 := { stood := { row := fnGtIntSlicesIsLexicographicRow, standIns := [], harness := (true, "6b1f54791ff78ebef827c5b9c33744e4d3e1191598e5d4386417fd9bd9b0b27b"), looks := true }, kinds := [], alts := [], laidByText := true, laidKinds := [.data, .data, .widerDeep, .widerDeep, .data, .data, .data, .data, .data, .sentinel, .sentinel, .sentinel, .sentinel, .sentinel, .data, .data, .data, .data, .data, .pinned, .pinned], laidTests := true, laidLooks := .later }
def FnGtIntSlicesIsLexicographicCardSaid : Prop := Claim7.holds Tryz.pinned (.plain (OpenSpec.ofChange fnGtIntSlicesIsLexicographicSpec)) fnGtIntSlicesIsLexicographicCard

/-- THE TIED CARD OF 'n001_81.FnGtTypeOrder'. -/
def fnGtTypeOrderCard : Claim7 := { stood := { row := fnGtTypeOrderRow, standIns := [], harness := (true, "6b1f54791ff78ebef827c5b9c33744e4d3e1191598e5d4386417fd9bd9b0b27b"), looks := true }, kinds := [], alts := [], laidByText := true, laidKinds := [.data, .data, .widerDeep, .widerDeep, .data, .data, .data, .data, .data, .sentinel, .sentinel, .sentinel, .sentinel, .sentinel, .data, .data, .data, .data, .data, .pinned, .pinned], laidTests := true, laidLooks := .later }
def FnGtTypeOrderCardSaid : Prop := Claim7.holds Tryz.pinned (.plain (OpenSpec.ofChange fnGtTypeOrderSpec)) fnGtTypeOrderCard

/-- THE SECOND FORM's CARD OF 'n001_81.FnNeIsNegationOfEqIntFloat'. -/
def fnNeIsNegationOfEqIntFloatUptoCard : Claim7 := { stood := { row := fnNeIsNegationOfEqIntFloatUptoRow, standIns := [], harness := (true, "6b1f54791ff78ebef827c5b9c33744e4d3e1191598e5d4386417fd9bd9b0b27b"), looks := true }, kinds := [], alts := [], laidByText := true, laidKinds := [.data, .data, .widerDeep, .widerDeep, .data, .data, .data, .data, .data, .sentinel, .sentinel, .sentinel, .sentinel, .sentinel, .data, .data, .data, .data, .data, .pinned, .pinned], laidTests := true, laidLooks := .later }
def FnNeIsNegationOfEqIntFloatUptoCardSaid : Prop := Claim7.holds Tryz.pinned (.plain (OpenSpec.upto fnNeIsNegationOfEqIntFloatSpec)) fnNeIsNegationOfEqIntFloatUptoCard

/-- THE SECOND FORM's CARD OF 'n001_81.FnEqStringsIsByteEquality'. -/
def fnEqStringsIsByteEqualityUptoCard : Claim7 := { stood := { row := fnEqStringsIsByteEqualityUptoRow, standIns := [], harness := (true, "6b1f54791ff78ebef827c5b9c33744e4d3e1191598e5d4386417fd9bd9b0b27b"), looks := true }, kinds := [], alts := [], laidByText := true, laidKinds := [.data, .data, .widerDeep, .widerDeep, .data, .data, .data, .data, .data, .sentinel, .sentinel, .sentinel, .sentinel, .sentinel, .data, .data, .data, .data, .data, .pinned, .pinned], laidTests := true, laidLooks := .later }
def FnEqStringsIsByteEqualityUptoCardSaid : Prop := Claim7.holds Tryz.pinned (.plain (OpenSpec.upto fnEqStringsIsByteEqualitySpec)) fnEqStringsIsByteEqualityUptoCard

/-- THE SECOND FORM's CARD OF 'n001_81.FnEqIntSlicesIsElementwise'. -/
def fnEqIntSlicesIsElementwiseUptoCard : Claim7 := { stood := { row := fnEqIntSlicesIsElementwiseUptoRow, standIns := [], harness := (true, "6b1f54791ff78ebef827c5b9c33744e4d3e1191598e5d4386417fd9bd9b0b27b"), looks := true }, kinds := [], alts := [], laidByText := true, laidKinds := [.data, .data, .widerDeep, .widerDeep, .data, .data, .data, .data, .data, .sentinel, .sentinel, .sentinel, .sentinel, .sentinel, .data, .data, .data, .data, .data, .pinned, .pinned], laidTests := true, laidLooks := .later }
def FnEqIntSlicesIsElementwiseUptoCardSaid : Prop := Claim7.holds Tryz.pinned (.plain (OpenSpec.upto fnEqIntSlicesIsElementwiseSpec)) fnEqIntSlicesIsElementwiseUptoCard

/-- THE SECOND FORM's CARD OF 'n001_81.FnNeIntSlicesIsDifference'. -/
def fnNeIntSlicesIsDifferenceUptoCard : Claim7 := { stood := { row := fnNeIntSlicesIsDifferenceUptoRow, standIns := [], harness := (true, "6b1f54791ff78ebef827c5b9c33744e4d3e1191598e5d4386417fd9bd9b0b27b"), looks := true }, kinds := [], alts := [], laidByText := true, laidKinds := [.data, .data, .widerDeep, .widerDeep, .data, .data, .data, .data, .data, .sentinel, .sentinel, .sentinel, .sentinel, .sentinel, .data, .data, .data, .data, .data, .pinned, .pinned], laidTests := true, laidLooks := .later }
def FnNeIntSlicesIsDifferenceUptoCardSaid : Prop := Claim7.holds Tryz.pinned (.plain (OpenSpec.upto fnNeIntSlicesIsDifferenceSpec)) fnNeIntSlicesIsDifferenceUptoCard

/-- THE SECOND FORM's CARD OF 'n001_81.FnGtIntSlicesIsLexicographic'. -/
def fnGtIntSlicesIsLexicographicUptoCard : Claim7 := { stood := { row := fnGtIntSlicesIsLexicographicUptoRow, standIns := [], harness := (true, "6b1f54791ff78ebef827c5b9c33744e4d3e1191598e5d4386417fd9bd9b0b27b"), looks := true }, kinds := [], alts := [], laidByText := true, laidKinds := [.data, .data, .widerDeep, .widerDeep, .data, .data, .data, .data, .data, .sentinel, .sentinel, .sentinel, .sentinel, .sentinel, .data, .data, .data, .data, .data, .pinned, .pinned], laidTests := true, laidLooks := .later }
def FnGtIntSlicesIsLexicographicUptoCardSaid : Prop := Claim7.holds Tryz.pinned (.plain (OpenSpec.upto fnGtIntSlicesIsLexicographicSpec)) fnGtIntSlicesIsLexicographicUptoCard

/-- THE SECOND FORM's CARD OF 'n001_81.FnGtTypeOrder'. -/
def fnGtTypeOrderUptoCard : Claim7 := { stood := { row := fnGtTypeOrderUptoRow, standIns := [], harness := (true, "6b1f54791ff78ebef827c5b9c33744e4d3e1191598e5d4386417fd9bd9b0b27b"), looks := true }, kinds := [], alts := [], laidByText := true, laidKinds := [.data, .data, .widerDeep, .widerDeep, .data, .data, .data, .data, .data, .sentinel, .sentinel, .sentinel, .sentinel, .sentinel, .data, .data, .data, .data, .data, .pinned, .pinned], laidTests := true, laidLooks := .later }
def FnGtTypeOrderUptoCardSaid : Prop := Claim7.holds Tryz.pinned (.plain (OpenSpec.upto fnGtTypeOrderSpec)) fnGtTypeOrderUptoCard
end Rows
end Go.Proofs.YtdklmpgjpnjdmaaGreatDoor
