/- Two closed facts of the whole seat, which each card asks. Conditions: none. -/
import Derived.Test.YtdklmpgjpnjdmaaGreatDoorCards
import Derived.KernelRfl
namespace Go.Proofs.YtdklmpgjpnjdmaaGreatDoor
open Go
theorem seat_main : Tryz.pinned.checked.prog.mainIs = some (true, "6b1f54791ff78ebef827c5b9c33744e4d3e1191598e5d4386417fd9bd9b0b27b".toList) := by kernel_rfl
set_option maxRecDepth 100000 in
theorem seat_looks : true = Tryz.pinned.checked.prog.looks [] := by kernel_rfl
end Go.Proofs.YtdklmpgjpnjdmaaGreatDoor
