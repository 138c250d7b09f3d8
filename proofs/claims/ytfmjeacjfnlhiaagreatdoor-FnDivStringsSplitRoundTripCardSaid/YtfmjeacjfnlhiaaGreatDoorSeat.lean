/- Two closed facts of the whole seat, which each card asks. Conditions: none. -/
import Derived.Test.YtfmjeacjfnlhiaaGreatDoorCards
import Derived.KernelRfl
namespace Go.Proofs.YtfmjeacjfnlhiaaGreatDoor
open Go
theorem seat_main : Tryz.pinned.checked.prog.mainIs = some (true, "cc1684f18a0322d4267030a7811c827d1d24fc7e9bf876289be6a4c6684ecbcb".toList) := by kernel_rfl
set_option maxRecDepth 100000 in
theorem seat_looks : true = Tryz.pinned.checked.prog.looks [] := by kernel_rfl
end Go.Proofs.YtfmjeacjfnlhiaaGreatDoor
