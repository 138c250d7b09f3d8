/- Two closed facts of the whole seat, which each card asks. Conditions: none. -/
import Derived.Test.YtlhkbdeceogjgaaGreatDoorCards
import Derived.KernelRfl
namespace Go.Proofs.YtlhkbdeceogjgaaGreatDoor
open Go
theorem seat_main : Tryz.pinned.checked.prog.mainIs = some (true, "0fcad0a1c0757c4753e01c2a5aa4959e64b5773d8626cd3e889d8590a9fc62fc".toList) := by kernel_rfl
set_option maxRecDepth 100000 in
theorem seat_looks : true = Tryz.pinned.checked.prog.looks [] := by kernel_rfl
end Go.Proofs.YtlhkbdeceogjgaaGreatDoor
