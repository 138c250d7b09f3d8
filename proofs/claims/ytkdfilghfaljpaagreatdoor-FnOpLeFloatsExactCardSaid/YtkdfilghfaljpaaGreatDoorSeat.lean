/- Two closed facts of the whole seat, which each card asks. Conditions: none. -/
import Derived.Test.YtkdfilghfaljpaaGreatDoorCards
import Derived.KernelRfl
namespace Go.Proofs.YtkdfilghfaljpaaGreatDoor
open Go
theorem seat_main : Tryz.pinned.checked.prog.mainIs = some (true, "29beccc09cf4234acef9b423efc07437bbe2560f288713770bc80df1df383c30".toList) := by kernel_rfl
set_option maxRecDepth 100000 in
theorem seat_looks : true = Tryz.pinned.checked.prog.looks [] := by kernel_rfl
end Go.Proofs.YtkdfilghfaljpaaGreatDoor
