/- Two closed facts of the whole seat, which each card asks. Conditions: none. -/
import Derived.Test.YtnlngodbjkefhaaGreatDoorCards
import Derived.KernelRfl
namespace Go.Proofs.YtnlngodbjkefhaaGreatDoor
open Go
theorem seat_main : Tryz.pinned.checked.prog.mainIs = some (true, "e9408a49ac58ccf36d7d7876e7848237101372a7c682d7e6e2be45c8741efcd9".toList) := by kernel_rfl
set_option maxRecDepth 100000 in
theorem seat_looks : true = Tryz.pinned.checked.prog.looks [] := by kernel_rfl
end Go.Proofs.YtnlngodbjkefhaaGreatDoor
