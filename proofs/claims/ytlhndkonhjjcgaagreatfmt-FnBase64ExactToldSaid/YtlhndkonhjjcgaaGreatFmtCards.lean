/-
  DERIVED. GIVEN WITH THE SEED: THE CARDS: each row of YtlhndkonhjjcgaaGreatFmtRows.lean that lists a variable, with what it lists TIED to the program's text (the seventh form; the later family's looks); each row that meets fmt, with fmt's text TOLD by the authors' own Lean function (tested against real Go, not proved from fmt's source: count such statements apart). THE CARD IS WHAT COUNTS. Prove the row's statement (the work); the ties are given (YtlhndkonhjjcgaaGreatFmtTie.lean); close each card by the builder's one call (the guide's Derived/Test/ToyasCard.lean, 'card_holds'). Laid BY PROGRAM, IN A SANDBOX (cutbox-door.mjs). By AI agents, Wed Nov 11 2026. No macro, syntax, notation, axiom, sorry.
-/
import Derived.Test.YtlhndkonhjjcgaaGreatFmtRows
import GoSem.ClaimSeven
namespace Go.Proofs.YtlhndkonhjjcgaaGreatFmt
namespace Rows

/-- THE TOLD AND TIED CARD OF 'n001_83.FnJsonMarshalRoundTrip'. -/
def fnJsonMarshalRoundTripCard : Claim7 := { stood := { row := fnJsonMarshalRoundTripRow, standIns := [], harness := (true, "bab15e8e11f20c400d6dbbefca0c89114aa647b10907ed4d9101af98c4dd86d6"), looks := true }, told := true, laidByText := true, laidKinds := [.data, .data, .data, .data, .data, .data, .data, .data, .data, .data, .pinned, .pinned, .pinned], laidTests := true, laidLooks := .later, goes := false }
def FnJsonMarshalRoundTripToldSaid : Prop := Claim7.holds Tryz.pinned (.plain (OpenSpec.ofChange fnJsonMarshalRoundTripSpec)) fnJsonMarshalRoundTripCard
/-- ITS FALSE NEIGHBOUR. Refute it at one input. -/
def FnJsonMarshalRoundTripToldWrongFalsely : Prop := Claim7.holds Tryz.pinned (.plain (OpenSpec.ofChange fnJsonMarshalRoundTripWrong)) fnJsonMarshalRoundTripCard

/-- THE TOLD AND TIED CARD OF 'n001_83.FnEncodeObjectSortedSpec'. -/
def fnEncodeObjectSortedSpecCard : Claim7 := { stood := { row := fnEncodeObjectSortedSpecRow, standIns := [], harness := (true, "bab15e8e11f20c400d6dbbefca0c89114aa647b10907ed4d9101af98c4dd86d6"), looks := true }, told := true, laidByText := true, laidKinds := [.data, .data, .data, .data, .data, .data, .data, .data, .data, .data, .pinned, .pinned, .pinned], laidTests := true, laidLooks := .later, goes := false }
def FnEncodeObjectSortedSpecToldSaid : Prop := Claim7.holds Tryz.pinned (.plain (OpenSpec.ofChange fnEncodeObjectSortedSpecSpec)) fnEncodeObjectSortedSpecCard
/-- ITS FALSE NEIGHBOUR. Refute it at one input. -/
def FnEncodeObjectSortedSpecToldWrongFalsely : Prop := Claim7.holds Tryz.pinned (.plain (OpenSpec.ofChange fnEncodeObjectSortedSpecWrong)) fnEncodeObjectSortedSpecCard

/-- THE TOLD AND TIED CARD OF 'n001_83.FnMarshalScalarTable'. -/
def fnMarshalScalarTableCard : Claim7 := { stood := { row := fnMarshalScalarTableRow, standIns := [], harness := (true, "bab15e8e11f20c400d6dbbefca0c89114aa647b10907ed4d9101af98c4dd86d6"), looks := true }, told := true, laidByText := true, laidKinds := [.data, .data, .data, .data, .data, .data, .data, .data, .data, .data, .pinned, .pinned, .pinned], laidTests := true, laidLooks := .later, goes := false }
def FnMarshalScalarTableToldSaid : Prop := Claim7.holds Tryz.pinned (.plain (OpenSpec.ofChange fnMarshalScalarTableSpec)) fnMarshalScalarTableCard
/-- ITS FALSE NEIGHBOUR. Refute it at one input. -/
def FnMarshalScalarTableToldWrongFalsely : Prop := Claim7.holds Tryz.pinned (.plain (OpenSpec.ofChange fnMarshalScalarTableWrong)) fnMarshalScalarTableCard

/-- THE TOLD AND TIED CARD OF 'n001_75.FnBase64Exact'. -/
def fnBase64ExactCard : Claim7 := { stood := { row := fnBase64ExactRow, standIns := [], harness := (true, "bab15e8e11f20c400d6dbbefca0c89114aa647b10907ed4d9101af98c4dd86d6"), looks := true }, told := true, laidByText := true, laidKinds := [.data, .data, .data, .data, .data, .data, .data, .data, .data, .data, .pinned, .pinned, .pinned], laidTests := true, laidLooks := .later, goes := false }
def FnBase64ExactToldSaid : Prop := Claim7.holds Tryz.pinned (.plain (OpenSpec.ofChange fnBase64ExactSpec)) fnBase64ExactCard
/-- ITS FALSE NEIGHBOUR. Refute it at one input. -/
def FnBase64ExactToldWrongFalsely : Prop := Claim7.holds Tryz.pinned (.plain (OpenSpec.ofChange fnBase64ExactWrong)) fnBase64ExactCard

/-- THE TOLD AND TIED CARD OF 'n001_86.FnRepeatStringTooLargeBounded'. -/
def fnRepeatStringTooLargeBoundedCard : Claim7 := { stood := { row := fnRepeatStringTooLargeBoundedRow, standIns := [], harness := (true, "bab15e8e11f20c400d6dbbefca0c89114aa647b10907ed4d9101af98c4dd86d6"), looks := true }, told := true, laidByText := true, laidKinds := [.data, .data, .data, .data, .data, .data, .data, .data, .data, .data, .pinned, .pinned, .pinned], laidTests := true, laidLooks := .later, goes := false }
def FnRepeatStringTooLargeBoundedToldSaid : Prop := Claim7.holds Tryz.pinned (.plain (OpenSpec.ofChange fnRepeatStringTooLargeBoundedSpec)) fnRepeatStringTooLargeBoundedCard
/-- ITS FALSE NEIGHBOUR. Refute it at one input. -/
def FnRepeatStringTooLargeBoundedToldWrongFalsely : Prop := Claim7.holds Tryz.pinned (.plain (OpenSpec.ofChange fnRepeatStringTooLargeBoundedWrong)) fnRepeatStringTooLargeBoundedCard

/-- THE TOLD AND TIED CARD OF 'n001_86.FnRepeatStringTooLargeMessage'. -/
def fnRepeatStringTooLargeMessageCard : Claim7 := { stood := { row := fnRepeatStringTooLargeMessageRow, standIns := [], harness := (true, "bab15e8e11f20c400d6dbbefca0c89114aa647b10907ed4d9101af98c4dd86d6"), looks := true }, told := true, laidByText := true, laidKinds := [.data, .data, .data, .data, .data, .data, .data, .data, .data, .data, .pinned, .pinned, .pinned], laidTests := true, laidLooks := .later, goes := false }
def FnRepeatStringTooLargeMessageToldSaid : Prop := Claim7.holds Tryz.pinned (.plain (OpenSpec.ofChange fnRepeatStringTooLargeMessageSpec)) fnRepeatStringTooLargeMessageCard
/-- ITS FALSE NEIGHBOUR. Refute it at one input. -/
def FnRepeatStringTooLargeMessageToldWrongFalsely : Prop := Claim7.holds Tryz.pinned (.plain (OpenSpec.ofChange fnRepeatStringTooLargeMessageWrong)) fnRepeatStringTooLargeMessageCard
end Rows
end Go.Proofs.YtlhndkonhjjcgaaGreatFmt
