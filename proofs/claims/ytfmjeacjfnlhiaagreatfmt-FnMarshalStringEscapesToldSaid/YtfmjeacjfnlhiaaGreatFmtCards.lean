/-
  DERIVED. GIVEN WITH THE SEED: THE CARDS: each row of YtfmjeacjfnlhiaaGreatFmtRows.lean that lists a variable, with what it lists TIED to the program's text (the seventh form; the later family's looks); each row that meets fmt, with fmt's text TOLD by the authors' own Lean function (tested against real Go, not proved from fmt's source: count such statements apart). THE CARD IS WHAT COUNTS. Prove the row's statement (the work); the ties are given (YtfmjeacjfnlhiaaGreatFmtTie.lean); close each card by the builder's one call (the guide's Derived/Test/ToyasCard.lean, 'card_holds'). Laid BY PROGRAM, IN A SANDBOX (cutbox-door.mjs). By AI agents, Wed Nov 11 2026. No macro, syntax, notation, axiom, sorry.
-/
import Derived.Test.YtfmjeacjfnlhiaaGreatFmtRows
import GoSem.ClaimSeven
namespace Go.Proofs.YtfmjeacjfnlhiaaGreatFmt
namespace Rows

/-- THE TOLD AND TIED CARD OF 'n001_86.FnArrayIndexNotNumberMessage'. -/
def fnArrayIndexNotNumberMessageCard : Claim7 := { stood := { row := fnArrayIndexNotNumberMessageRow, standIns := [], harness := (true, "fbab6ca1f85ab46ea9faf73590ddfdbe652fba307c9f7d29d3488c42dc2ee9a9"), looks := true }, told := true, laidByText := true, laidKinds := [.data, .data, .data, .data, .data, .data, .data, .data, .data, .data, .pinned, .pinned, .pinned], laidTests := true, laidLooks := .later, goes := false }
def FnArrayIndexNotNumberMessageToldSaid : Prop := Claim7.holds Tryz.pinned (.plain (OpenSpec.ofChange fnArrayIndexNotNumberMessageSpec)) fnArrayIndexNotNumberMessageCard
/-- ITS FALSE NEIGHBOUR. Refute it at one input. -/
def FnArrayIndexNotNumberMessageToldWrongFalsely : Prop := Claim7.holds Tryz.pinned (.plain (OpenSpec.ofChange fnArrayIndexNotNumberMessageWrong)) fnArrayIndexNotNumberMessageCard

/-- THE TOLD AND TIED CARD OF 'n001_86.FnObjectKeyNotStringMessage'. -/
def fnObjectKeyNotStringMessageCard : Claim7 := { stood := { row := fnObjectKeyNotStringMessageRow, standIns := [], harness := (true, "fbab6ca1f85ab46ea9faf73590ddfdbe652fba307c9f7d29d3488c42dc2ee9a9"), looks := true }, told := true, laidByText := true, laidKinds := [.data, .data, .data, .data, .data, .data, .data, .data, .data, .data, .pinned, .pinned, .pinned], laidTests := true, laidLooks := .later, goes := false }
def FnObjectKeyNotStringMessageToldSaid : Prop := Claim7.holds Tryz.pinned (.plain (OpenSpec.ofChange fnObjectKeyNotStringMessageSpec)) fnObjectKeyNotStringMessageCard
/-- ITS FALSE NEIGHBOUR. Refute it at one input. -/
def FnObjectKeyNotStringMessageToldWrongFalsely : Prop := Claim7.holds Tryz.pinned (.plain (OpenSpec.ofChange fnObjectKeyNotStringMessageWrong)) fnObjectKeyNotStringMessageCard

/-- THE TOLD AND TIED CARD OF 'n001_86.FnArrayIndexTooLargeMessage'. -/
def fnArrayIndexTooLargeMessageCard : Claim7 := { stood := { row := fnArrayIndexTooLargeMessageRow, standIns := [], harness := (true, "fbab6ca1f85ab46ea9faf73590ddfdbe652fba307c9f7d29d3488c42dc2ee9a9"), looks := true }, told := true, laidByText := true, laidKinds := [.data, .data, .data, .data, .data, .data, .data, .data, .data, .data, .pinned, .pinned, .pinned], laidTests := true, laidLooks := .later, goes := false }
def FnArrayIndexTooLargeMessageToldSaid : Prop := Claim7.holds Tryz.pinned (.plain (OpenSpec.ofChange fnArrayIndexTooLargeMessageSpec)) fnArrayIndexTooLargeMessageCard
/-- ITS FALSE NEIGHBOUR. Refute it at one input. -/
def FnArrayIndexTooLargeMessageToldWrongFalsely : Prop := Claim7.holds Tryz.pinned (.plain (OpenSpec.ofChange fnArrayIndexTooLargeMessageWrong)) fnArrayIndexTooLargeMessageCard

/-- THE TOLD AND TIED CARD OF 'n001_86.FnObjectKeyNotStringSeparates'. -/
def fnObjectKeyNotStringSeparatesCard : Claim7 := { stood := { row := fnObjectKeyNotStringSeparatesRow, standIns := [], harness := (true, "fbab6ca1f85ab46ea9faf73590ddfdbe652fba307c9f7d29d3488c42dc2ee9a9"), looks := true }, told := true, laidByText := true, laidKinds := [.data, .data, .data, .data, .data, .data, .data, .data, .data, .data, .pinned, .pinned, .pinned], laidTests := true, laidLooks := .later, goes := false }
def FnObjectKeyNotStringSeparatesToldSaid : Prop := Claim7.holds Tryz.pinned (.plain (OpenSpec.ofChange fnObjectKeyNotStringSeparatesSpec)) fnObjectKeyNotStringSeparatesCard
/-- ITS FALSE NEIGHBOUR. Refute it at one input. -/
def FnObjectKeyNotStringSeparatesToldWrongFalsely : Prop := Claim7.holds Tryz.pinned (.plain (OpenSpec.ofChange fnObjectKeyNotStringSeparatesWrong)) fnObjectKeyNotStringSeparatesCard

/-- THE TOLD AND TIED CARD OF 'n001_86.FnArrayIndexTooLargeOrdered'. -/
def fnArrayIndexTooLargeOrderedCard : Claim7 := { stood := { row := fnArrayIndexTooLargeOrderedRow, standIns := [], harness := (true, "fbab6ca1f85ab46ea9faf73590ddfdbe652fba307c9f7d29d3488c42dc2ee9a9"), looks := true }, told := true, laidByText := true, laidKinds := [.data, .data, .data, .data, .data, .data, .data, .data, .data, .data, .pinned, .pinned, .pinned], laidTests := true, laidLooks := .later, goes := false }
def FnArrayIndexTooLargeOrderedToldSaid : Prop := Claim7.holds Tryz.pinned (.plain (OpenSpec.ofChange fnArrayIndexTooLargeOrderedSpec)) fnArrayIndexTooLargeOrderedCard
/-- ITS FALSE NEIGHBOUR. Refute it at one input. -/
def FnArrayIndexTooLargeOrderedToldWrongFalsely : Prop := Claim7.holds Tryz.pinned (.plain (OpenSpec.ofChange fnArrayIndexTooLargeOrderedWrong)) fnArrayIndexTooLargeOrderedCard

/-- THE TOLD AND TIED CARD OF 'n001_72.FnFormatRowErrorBoolValue'. -/
def fnFormatRowErrorBoolValueCard : Claim7 := { stood := { row := fnFormatRowErrorBoolValueRow, standIns := [], harness := (true, "fbab6ca1f85ab46ea9faf73590ddfdbe652fba307c9f7d29d3488c42dc2ee9a9"), looks := true }, told := true, laidByText := true, laidKinds := [.data, .data, .data, .data, .data, .data, .data, .data, .data, .data, .pinned, .pinned, .pinned], laidTests := true, laidLooks := .later, goes := false }
def FnFormatRowErrorBoolValueToldSaid : Prop := Claim7.holds Tryz.pinned (.plain (OpenSpec.ofChange fnFormatRowErrorBoolValueSpec)) fnFormatRowErrorBoolValueCard
/-- ITS FALSE NEIGHBOUR. Refute it at one input. -/
def FnFormatRowErrorBoolValueToldWrongFalsely : Prop := Claim7.holds Tryz.pinned (.plain (OpenSpec.ofChange fnFormatRowErrorBoolValueWrong)) fnFormatRowErrorBoolValueCard

/-- THE TOLD AND TIED CARD OF 'n001_98.FnToJSONIntIsDecimal'. -/
def fnToJSONIntIsDecimalCard : Claim7 := { stood := { row := fnToJSONIntIsDecimalRow, standIns := [], harness := (true, "fbab6ca1f85ab46ea9faf73590ddfdbe652fba307c9f7d29d3488c42dc2ee9a9"), looks := true }, told := true, laidByText := true, laidKinds := [.data, .data, .data, .data, .data, .data, .data, .data, .data, .data, .pinned, .pinned, .pinned], laidTests := true, laidLooks := .later, goes := false }
def FnToJSONIntIsDecimalToldSaid : Prop := Claim7.holds Tryz.pinned (.plain (OpenSpec.ofChange fnToJSONIntIsDecimalSpec)) fnToJSONIntIsDecimalCard
/-- ITS FALSE NEIGHBOUR. Refute it at one input. -/
def FnToJSONIntIsDecimalToldWrongFalsely : Prop := Claim7.holds Tryz.pinned (.plain (OpenSpec.ofChange fnToJSONIntIsDecimalWrong)) fnToJSONIntIsDecimalCard

/-- THE TOLD AND TIED CARD OF 'n001_83.FnEncodeIntArraySpec'. -/
def fnEncodeIntArraySpecCard : Claim7 := { stood := { row := fnEncodeIntArraySpecRow, standIns := [], harness := (true, "fbab6ca1f85ab46ea9faf73590ddfdbe652fba307c9f7d29d3488c42dc2ee9a9"), looks := true }, told := true, laidByText := true, laidKinds := [.data, .data, .data, .data, .data, .data, .data, .data, .data, .data, .pinned, .pinned, .pinned], laidTests := true, laidLooks := .later, goes := false }
def FnEncodeIntArraySpecToldSaid : Prop := Claim7.holds Tryz.pinned (.plain (OpenSpec.ofChange fnEncodeIntArraySpecSpec)) fnEncodeIntArraySpecCard
/-- ITS FALSE NEIGHBOUR. Refute it at one input. -/
def FnEncodeIntArraySpecToldWrongFalsely : Prop := Claim7.holds Tryz.pinned (.plain (OpenSpec.ofChange fnEncodeIntArraySpecWrong)) fnEncodeIntArraySpecCard

/-- THE TOLD AND TIED CARD OF 'n001_83.FnJsonMarshalStringSpec'. -/
def fnJsonMarshalStringSpecCard : Claim7 := { stood := { row := fnJsonMarshalStringSpecRow, standIns := [], harness := (true, "fbab6ca1f85ab46ea9faf73590ddfdbe652fba307c9f7d29d3488c42dc2ee9a9"), looks := true }, told := true, laidByText := true, laidKinds := [.data, .data, .data, .data, .data, .data, .data, .data, .data, .data, .pinned, .pinned, .pinned], laidTests := true, laidLooks := .later, goes := false }
def FnJsonMarshalStringSpecToldSaid : Prop := Claim7.holds Tryz.pinned (.plain (OpenSpec.ofChange fnJsonMarshalStringSpecSpec)) fnJsonMarshalStringSpecCard
/-- ITS FALSE NEIGHBOUR. Refute it at one input. -/
def FnJsonMarshalStringSpecToldWrongFalsely : Prop := Claim7.holds Tryz.pinned (.plain (OpenSpec.ofChange fnJsonMarshalStringSpecWrong)) fnJsonMarshalStringSpecCard

/-- THE TOLD AND TIED CARD OF 'n001_83.FnMarshalStringEscapes'. -/
def fnMarshalStringEscapesCard : Claim7 := { stood := { row := fnMarshalStringEscapesRow, standIns := [], harness := (true, "fbab6ca1f85ab46ea9faf73590ddfdbe652fba307c9f7d29d3488c42dc2ee9a9"), looks := true }, told := true, laidByText := true, laidKinds := [.data, .data, .data, .data, .data, .data, .data, .data, .data, .data, .pinned, .pinned, .pinned], laidTests := true, laidLooks := .later, goes := false }
def FnMarshalStringEscapesToldSaid : Prop := Claim7.holds Tryz.pinned (.plain (OpenSpec.ofChange fnMarshalStringEscapesSpec)) fnMarshalStringEscapesCard
/-- ITS FALSE NEIGHBOUR. Refute it at one input. -/
def FnMarshalStringEscapesToldWrongFalsely : Prop := Claim7.holds Tryz.pinned (.plain (OpenSpec.ofChange fnMarshalStringEscapesWrong)) fnMarshalStringEscapesCard
end Rows
end Go.Proofs.YtfmjeacjfnlhiaaGreatFmt
