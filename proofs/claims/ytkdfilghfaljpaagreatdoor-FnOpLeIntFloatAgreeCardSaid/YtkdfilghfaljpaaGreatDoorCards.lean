/-
  DERIVED. GIVEN WITH THE SEED: THE CARDS: each row of YtkdfilghfaljpaaGreatDoorRows.lean that lists a variable, with what it lists TIED to the program's text (the seventh form; the later family's looks); each row that meets fmt, with fmt's text TOLD by the authors' own Lean function (tested against real Go, not proved from fmt's source: count such statements apart). THE CARD IS WHAT COUNTS. Prove the row's statement (the work); the ties are given (YtkdfilghfaljpaaGreatDoorTie.lean); close each card by the builder's one call (the guide's Derived/Test/ToyasCard.lean, 'card_holds'). Laid BY PROGRAM, IN A SANDBOX (cutbox-door.mjs). By AI agents, Wed Nov 11 2026. No macro, syntax, notation, axiom, sorry.
-/
import Derived.Test.YtkdfilghfaljpaaGreatDoorRows
import GoSem.ClaimSeven
namespace Go.Proofs.YtkdfilghfaljpaaGreatDoor
namespace Rows

/-- THE TIED CARD OF 'n001_92.FnOpGeIntsExact'. -/
def fnOpGeIntsExactCard : Claim7 := { stood := { row := fnOpGeIntsExactRow, standIns := [], harness := (true, "29beccc09cf4234acef9b423efc07437bbe2560f288713770bc80df1df383c30"), looks := true }, kinds := [], alts := [], laidByText := true, laidKinds := [.data, .data, .widerDeep, .widerDeep, .data, .data, .data, .data, .data, .sentinel, .sentinel, .sentinel, .sentinel, .sentinel, .data, .data, .data, .data, .data, .pinned, .pinned], laidTests := true, laidLooks := .later }
def FnOpGeIntsExactCardSaid : Prop := Claim7.holds Tryz.pinned (.plain (OpenSpec.ofChange fnOpGeIntsExactSpec)) fnOpGeIntsExactCard

/-- THE TIED CARD OF 'n001_92.FnOpGeBoolTable'. -/
def fnOpGeBoolTableCard : Claim7 := { stood := { row := fnOpGeBoolTableRow, standIns := [], harness := (true, "29beccc09cf4234acef9b423efc07437bbe2560f288713770bc80df1df383c30"), looks := true }, kinds := [], alts := [], laidByText := true, laidKinds := [.data, .data, .widerDeep, .widerDeep, .data, .data, .data, .data, .data, .sentinel, .sentinel, .sentinel, .sentinel, .sentinel, .data, .data, .data, .data, .data, .pinned, .pinned], laidTests := true, laidLooks := .later }
def FnOpGeBoolTableCardSaid : Prop := Claim7.holds Tryz.pinned (.plain (OpenSpec.ofChange fnOpGeBoolTableSpec)) fnOpGeBoolTableCard

/-- THE TIED CARD OF 'n001_92.FnOpLeFloatsExact'. -/
def fnOpLeFloatsExactCard : Claim7 := { stood := { row := fnOpLeFloatsExactRow, standIns := [], harness := (true, "29beccc09cf4234acef9b423efc07437bbe2560f288713770bc80df1df383c30"), looks := true }, kinds := [], alts := [], laidByText := true, laidKinds := [.data, .data, .widerDeep, .widerDeep, .data, .data, .data, .data, .data, .sentinel, .sentinel, .sentinel, .sentinel, .sentinel, .data, .data, .data, .data, .data, .pinned, .pinned], laidTests := true, laidLooks := .later }
def FnOpLeFloatsExactCardSaid : Prop := Claim7.holds Tryz.pinned (.plain (OpenSpec.ofChange fnOpLeFloatsExactSpec)) fnOpLeFloatsExactCard

/-- THE TIED CARD OF 'n001_92.FnOpLeIntFloatAgree'. -/
def fnOpLeIntFloatAgreeCard : Claim7 := { stood := { row := fnOpLeIntFloatAgreeRow, standIns := [], harness := (true, "29beccc09cf4234acef9b423efc07437bbe2560f288713770bc80df1df383c30"), looks := true }, kinds := [], alts := [], laidByText := true, laidKinds := [.data, .data, .widerDeep, .widerDeep, .data, .data, .data, .data, .data, .sentinel, .sentinel, .sentinel, .sentinel, .sentinel, .data, .data, .data, .data, .data, .pinned, .pinned], laidTests := true, laidLooks := .later }
def FnOpLeIntFloatAgreeCardSaid : Prop := Claim7.holds Tryz.pinned (.plain (OpenSpec.ofChange fnOpLeIntFloatAgreeSpec)) fnOpLeIntFloatAgreeCard

/-- THE TIED CARD OF 'n001_92.FnOpLeNumbersBeforeStrings'. -/
def fnOpLeNumbersBeforeStringsCard : Claim7 := { stood := { row := fnOpLeNumbersBeforeStringsRow, standIns := [], harness := (true, "29beccc09cf4234acef9b423efc07437bbe2560f288713770bc80df1df383c30"), looks := true }, kinds := [], alts := [], laidByText := true, laidKinds := [.data, .data, .widerDeep, .widerDeep, .data, .data, .data, .data, .data, .sentinel, .sentinel, .sentinel, .sentinel, .sentinel, .data, .data, .data, .data, .data, .pinned, .pinned], laidTests := true, laidLooks := .later }
def FnOpLeNumbersBeforeStringsCardSaid : Prop := Claim7.holds Tryz.pinned (.plain (OpenSpec.ofChange fnOpLeNumbersBeforeStringsSpec)) fnOpLeNumbersBeforeStringsCard

/-- THE TIED CARD OF 'n001_92.FnOpLtStringsByteOrder'. -/
def fnOpLtStringsByteOrderCard : Claim7 := { stood := { row := fnOpLtStringsByteOrderRow, standIns := [], harness := (true, "29beccc09cf4234acef9b423efc07437bbe2560f288713770bc80df1df383c30"), looks := true }, kinds := [], alts := [], laidByText := true, laidKinds := [.data, .data, .widerDeep, .widerDeep, .data, .data, .data, .data, .data, .sentinel, .sentinel, .sentinel, .sentinel, .sentinel, .data, .data, .data, .data, .data, .pinned, .pinned], laidTests := true, laidLooks := .later }
def FnOpLtStringsByteOrderCardSaid : Prop := Claim7.holds Tryz.pinned (.plain (OpenSpec.ofChange fnOpLtStringsByteOrderSpec)) fnOpLtStringsByteOrderCard

/-- THE TIED CARD OF 'n001_92.FnOpLtIntArraysLex'. -/
def fnOpLtIntArraysLexCard : Claim7 := { stood := { row := fnOpLtIntArraysLexRow, standIns := [], harness := (true, "29beccc09cf4234acef9b423efc07437bbe2560f288713770bc80df1df383c30"), looks := true }, kinds := [], alts := [], laidByText := true, laidKinds := [.data, .data, .widerDeep, .widerDeep, .data, .data, .data, .data, .data, .sentinel, .sentinel, .sentinel, .sentinel, .sentinel, .data, .data, .data, .data, .data, .pinned, .pinned], laidTests := true, laidLooks := .later }
def FnOpLtIntArraysLexCardSaid : Prop := Claim7.holds Tryz.pinned (.plain (OpenSpec.ofChange fnOpLtIntArraysLexSpec)) fnOpLtIntArraysLexCard

/-- THE SECOND FORM's CARD OF 'n001_92.FnOpGeIntsExact'. -/
def fnOpGeIntsExactUptoCard : Claim7 := { stood := { row := fnOpGeIntsExactUptoRow, standIns := [], harness := (true, "29beccc09cf4234acef9b423efc07437bbe2560f288713770bc80df1df383c30"), looks := true }, kinds := [], alts := [], laidByText := true, laidKinds := [.data, .data, .widerDeep, .widerDeep, .data, .data, .data, .data, .data, .sentinel, .sentinel, .sentinel, .sentinel, .sentinel, .data, .data, .data, .data, .data, .pinned, .pinned], laidTests := true, laidLooks := .later }
def FnOpGeIntsExactUptoCardSaid : Prop := Claim7.holds Tryz.pinned (.plain (OpenSpec.upto fnOpGeIntsExactSpec)) fnOpGeIntsExactUptoCard

/-- THE SECOND FORM's CARD OF 'n001_92.FnOpGeBoolTable'. -/
def fnOpGeBoolTableUptoCard : Claim7 := { stood := { row := fnOpGeBoolTableUptoRow, standIns := [], harness := (true, "29beccc09cf4234acef9b423efc07437bbe2560f288713770bc80df1df383c30"), looks := true }, kinds := [], alts := [], laidByText := true, laidKinds := [.data, .data, .widerDeep, .widerDeep, .data, .data, .data, .data, .data, .sentinel, .sentinel, .sentinel, .sentinel, .sentinel, .data, .data, .data, .data, .data, .pinned, .pinned], laidTests := true, laidLooks := .later }
def FnOpGeBoolTableUptoCardSaid : Prop := Claim7.holds Tryz.pinned (.plain (OpenSpec.upto fnOpGeBoolTableSpec)) fnOpGeBoolTableUptoCard

/-- THE SECOND FORM's CARD OF 'n001_92.FnOpLeFloatsExact'. -/
def fnOpLeFloatsExactUptoCard : Claim7 := { stood := { row := fnOpLeFloatsExactUptoRow, standIns := [], harness := (true, "29beccc09cf4234acef9b423efc07437bbe2560f288713770bc80df1df383c30"), looks := true }, kinds := [], alts := [], laidByText := true, laidKinds := [.data, .data, .widerDeep, .widerDeep, .data, .data, .data, .data, .data, .sentinel, .sentinel, .sentinel, .sentinel, .sentinel, .data, .data, .data, .data, .data, .pinned, .pinned], laidTests := true, laidLooks := .later }
def FnOpLeFloatsExactUptoCardSaid : Prop := Claim7.holds Tryz.pinned (.plain (OpenSpec.upto fnOpLeFloatsExactSpec)) fnOpLeFloatsExactUptoCard

/-- THE SECOND FORM's CARD OF 'n001_92.FnOpLeIntFloatAgree'. -/
def fnOpLeIntFloatAgreeUptoCard : Claim7 := { stood := { row := fnOpLeIntFloatAgreeUptoRow, standIns := [], harness := (true, "29beccc09cf4234acef9b423efc07437bbe2560f288713770bc80df1df383c30"), looks := true }, kinds := [], alts := [], laidByText := true, laidKinds := [.data, .data, .widerDeep, .widerDeep, .data, .data, .data, .data, .data, .sentinel, .sentinel, .sentinel, .sentinel, .sentinel, .data, .data, .data, .data, .data, .pinned, .pinned], laidTests := true, laidLooks := .later }
def FnOpLeIntFloatAgreeUptoCardSaid : Prop := Claim7.holds Tryz.pinned (.plain (OpenSpec.upto fnOpLeIntFloatAgreeSpec)) fnOpLeIntFloatAgreeUptoCard

/-- THE SECOND FORM's CARD OF 'n001_92.FnOpLeNumbersBeforeStrings'. -/
def fnOpLeNumbersBeforeStringsUptoCard : Claim7 := { stood := { row := fnOpLeNumbersBeforeStringsUptoRow, standIns := [], harness := (true, "29beccc09cf4234acef9b423efc07437bbe2560f288713770bc80df1df383c30"), looks := true }, kinds := [], alts := [], laidByText := true, laidKinds := [.data, .data, .widerDeep, .widerDeep, .data, .data, .data, .data, .data, .sentinel, .sentinel, .sentinel, .sentinel, .sentinel, .data, .data, .data, .data, .data, .pinned, .pinned], laidTests := true, laidLooks := .later }
def FnOpLeNumbersBeforeStringsUptoCardSaid : Prop := Claim7.holds Tryz.pinned (.plain (OpenSpec.upto fnOpLeNumbersBeforeStringsSpec)) fnOpLeNumbersBeforeStringsUptoCard

/-- THE SECOND FORM's CARD OF 'n001_92.FnOpLtStringsByteOrder'. -/
def fnOpLtStringsByteOrderUptoCard : Claim7 := { stood := { row := fnOpLtStringsByteOrderUptoRow, standIns := [], harness := (true, "29beccc09cf4234acef9b423efc07437bbe2560f288713770bc80df1df383c30"), looks := true }, kinds := [], alts := [], laidByText := true, laidKinds := [.data, .data, .widerDeep, .widerDeep, .data, .data, .data, .data, .data, .sentinel, .sentinel, .sentinel, .sentinel, .sentinel, .data, .data, .data, .data, .data, .pinned, .pinned], laidTests := true, laidLooks := .later }
def FnOpLtStringsByteOrderUptoCardSaid : Prop := Claim7.holds Tryz.pinned (.plain (OpenSpec.upto fnOpLtStringsByteOrderSpec)) fnOpLtStringsByteOrderUptoCard

/-- THE SECOND FORM's CARD OF 'n001_92.FnOpLtIntArraysLex'. -/
def fnOpLtIntArraysLexUptoCard : Claim7 := { stood := { row := fnOpLtIntArraysLexUptoRow, standIns := [], harness := (true, "29beccc09cf4234acef9b423efc07437bbe2560f288713770bc80df1df383c30"), looks := true }, kinds := [], alts := [], laidByText := true, laidKinds := [.data, .data, .widerDeep, .widerDeep, .data, .data, .data, .data, .data, .sentinel, .sentinel, .sentinel, .sentinel, .sentinel, .data, .data, .data, .data, .data, .pinned, .pinned], laidTests := true, laidLooks := .later }
def FnOpLtIntArraysLexUptoCardSaid : Prop := Claim7.holds Tryz.pinned (.plain (OpenSpec.upto fnOpLtIntArraysLexSpec)) fnOpLtIntArraysLexUptoCard
end Rows
end Go.Proofs.YtkdfilghfaljpaaGreatDoor
