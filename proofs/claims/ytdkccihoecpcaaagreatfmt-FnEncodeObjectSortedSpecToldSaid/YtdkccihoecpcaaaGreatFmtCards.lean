/-
  DERIVED. GIVEN WITH THE SEED: THE CARDS: each row of YtdkccihoecpcaaaGreatFmtRows.lean that lists a variable, with what it lists TIED to the program's text (the seventh form; the later family's looks); each row that meets fmt, with fmt's text TOLD by the authors' own Lean function (tested against real Go, not proved from fmt's source: count such statements apart). THE CARD IS WHAT COUNTS. Prove the row's statement (the work); the ties are given (YtdkccihoecpcaaaGreatFmtTie.lean); close each card by the builder's one call (the guide's Derived/Test/ToyasCard.lean, 'card_holds'). Laid BY PROGRAM, IN A SANDBOX (cutbox-door.mjs). By AI agents, Wed Nov 11 2026. No macro, syntax, notation, axiom, sorry.
-/
import Derived.Test.YtdkccihoecpcaaaGreatFmtRows
import GoSem.ClaimSeven
namespace Go.Proofs.YtdkccihoecpcaaaGreatFmt
namespace Rows

/-- THE TOLD AND TIED CARD OF 'n001_86.FnRepeatStringTooLargeBounded'. -/
def fnRepeatStringTooLargeBoundedCard : Claim7 := { stood := { row := fnRepeatStringTooLargeBoundedRow, standIns := [], harness := (true, "23ed704817c54e9fbe6c5ffa07d4a23ae5669c340dfaba732f06bfd8960f2176"), looks := true }, told := true, laidByText := true, laidKinds := [.data, .data, .data, .data, .data, .data, .data, .data, .data, .data, .pinned, .pinned, .pinned], laidTests := true, laidLooks := .later, goes := false }
def FnRepeatStringTooLargeBoundedToldSaid : Prop := Claim7.holds Tryz.pinned (.plain (OpenSpec.ofChange fnRepeatStringTooLargeBoundedSpec)) fnRepeatStringTooLargeBoundedCard
/-- ITS FALSE NEIGHBOUR. Refute it at one input. -/
def FnRepeatStringTooLargeBoundedToldWrongFalsely : Prop := Claim7.holds Tryz.pinned (.plain (OpenSpec.ofChange fnRepeatStringTooLargeBoundedWrong)) fnRepeatStringTooLargeBoundedCard

/-- THE TOLD AND TIED CARD OF 'n001_86.FnRepeatStringTooLargeMessage'. -/
def fnRepeatStringTooLargeMessageCard : Claim7 := { stood := { row := fnRepeatStringTooLargeMessageRow, standIns := [], harness := (true, "23ed704817c54e9fbe6c5ffa07d4a23ae5669c340dfaba732f06bfd8960f2176"), looks := true }, told := true, laidByText := true, laidKinds := [.data, .data, .data, .data, .data, .data, .data, .data, .data, .data, .pinned, .pinned, .pinned], laidTests := true, laidLooks := .later, goes := false }
def FnRepeatStringTooLargeMessageToldSaid : Prop := Claim7.holds Tryz.pinned (.plain (OpenSpec.ofChange fnRepeatStringTooLargeMessageSpec)) fnRepeatStringTooLargeMessageCard
/-- ITS FALSE NEIGHBOUR. Refute it at one input. -/
def FnRepeatStringTooLargeMessageToldWrongFalsely : Prop := Claim7.holds Tryz.pinned (.plain (OpenSpec.ofChange fnRepeatStringTooLargeMessageWrong)) fnRepeatStringTooLargeMessageCard

/-- THE TOLD AND TIED CARD OF 'n001_83.FnMarshalScalarTable'. -/
def fnMarshalScalarTableCard : Claim7 := { stood := { row := fnMarshalScalarTableRow, standIns := [], harness := (true, "23ed704817c54e9fbe6c5ffa07d4a23ae5669c340dfaba732f06bfd8960f2176"), looks := true }, told := true, laidByText := true, laidKinds := [.data, .data, .data, .data, .data, .data, .data, .data, .data, .data, .pinned, .pinned, .pinned], laidTests := true, laidLooks := .later, goes := false }
def FnMarshalScalarTableToldSaid : Prop := Claim7.holds Tryz.pinned (.plain (OpenSpec.ofChange fnMarshalScalarTableSpec)) fnMarshalScalarTableCard
/-- ITS FALSE NEIGHBOUR. Refute it at one input. -/
def FnMarshalScalarTableToldWrongFalsely : Prop := Claim7.holds Tryz.pinned (.plain (OpenSpec.ofChange fnMarshalScalarTableWrong)) fnMarshalScalarTableCard

/-- THE TOLD AND TIED CARD OF 'n001_83.FnEncodeObjectSortedSpec'. -/
def fnEncodeObjectSortedSpecCard : Claim7 := { stood := { row := fnEncodeObjectSortedSpecRow, standIns := [], harness := (true, "23ed704817c54e9fbe6c5ffa07d4a23ae5669c340dfaba732f06bfd8960f2176"), looks := true }, told := true, laidByText := true, laidKinds := [.data, .data, .data, .data, .data, .data, .data, .data, .data, .data, .pinned, .pinned, .pinned], laidTests := true, laidLooks := .later, goes := false }
def FnEncodeObjectSortedSpecToldSaid : Prop := Claim7.holds Tryz.pinned (.plain (OpenSpec.ofChange fnEncodeObjectSortedSpecSpec)) fnEncodeObjectSortedSpecCard
/-- ITS FALSE NEIGHBOUR. Refute it at one input. -/
def FnEncodeObjectSortedSpecToldWrongFalsely : Prop := Claim7.holds Tryz.pinned (.plain (OpenSpec.ofChange fnEncodeObjectSortedSpecWrong)) fnEncodeObjectSortedSpecCard

/-- THE TOLD AND TIED CARD OF 'n001_83.FnJsonMarshalRoundTrip'. -/
def fnJsonMarshalRoundTripCard : Claim7 := { stood := { row := fnJsonMarshalRoundTripRow, standIns := [], harness := (true, "23ed704817c54e9fbe6c5ffa07d4a23ae5669c340dfaba732f06bfd8960f2176"), looks := true }, told := true, laidByText := true, laidKinds := [.data, .data, .data, .data, .data, .data, .data, .data, .data, .data, .pinned, .pinned, .pinned], laidTests := true, laidLooks := .later, goes := false }
def FnJsonMarshalRoundTripToldSaid : Prop := Claim7.holds Tryz.pinned (.plain (OpenSpec.ofChange fnJsonMarshalRoundTripSpec)) fnJsonMarshalRoundTripCard
/-- ITS FALSE NEIGHBOUR. Refute it at one input. -/
def FnJsonMarshalRoundTripToldWrongFalsely : Prop := Claim7.holds Tryz.pinned (.plain (OpenSpec.ofChange fnJsonMarshalRoundTripWrong)) fnJsonMarshalRoundTripCard
end Rows
end Go.Proofs.YtdkccihoecpcaaaGreatFmt
