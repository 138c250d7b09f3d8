/- Two closed facts of the whole seat, which each card asks. Conditions: none. -/
import Derived.Test.YtlhndkonhjjcgaaGreatDoorCards
import Derived.KernelRfl
namespace Go.Proofs.YtlhndkonhjjcgaaGreatDoor
open Go
theorem seat_main : Tryz.pinned.checked.prog.mainIs = some (true, "82bc7a4d03ff3eeacd2b6e633c72fbeb6518e4ab2f35fce0f1b67ec59819b46e".toList) := by kernel_rfl
set_option maxRecDepth 100000 in
theorem seat_looks : true = Tryz.pinned.checked.prog.looks [] := by kernel_rfl
end Go.Proofs.YtlhndkonhjjcgaaGreatDoor
