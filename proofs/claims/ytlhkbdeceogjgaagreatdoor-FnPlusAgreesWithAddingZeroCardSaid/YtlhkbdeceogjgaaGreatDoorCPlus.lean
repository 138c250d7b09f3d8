/- Closed facts of the row of FnPlusAgreesWithAddingZero, and of the start at which it is shown to speak of something. Conditions: none. -/
import Derived.Test.YtlhkbdeceogjgaaGreatDoorWit
namespace Go.Proofs.YtlhkbdeceogjgaaGreatDoor
open Go
set_option maxRecDepth 100000 in
set_option maxHeartbeats 4000000 in
theorem Plus_closed : joinedFacts Tryz.pinned.checked.prog 7 Tryz.f7 Rows.fnPlusAgreesWithAddingZeroSpec Rows.fnPlusAgreesWithAddingZeroRow = true := by
  unfold joinedFacts
  repeat' (with_reducible refine and_mk ?_ ?_)
  all_goals (as_aux_lemma => kernel_rfl)
set_option maxRecDepth 100000 in
theorem Plus_ok (os : Os) : Input.okWideB Tryz.prog ((World.laidAll Tryz.prog os seatLaid1).forCall (fun _ _ => 0) ⟨#[], #[.int .i64 0, .float .f64 0], []⟩) 7 ⟨#[], #[.int .i64 0, .float .f64 0], []⟩ = true := by kernel_rfl
set_option maxRecDepth 100000 in
theorem Plus_pre (os : Os) (H : Type) (enc : TypeId × Value → H) : Rows.fnPlusAgreesWithAddingZeroSpec.preB enc Tryz.prog Tryz.f7 [] false ((World.laidAll Tryz.prog os seatLaid1).forCall (fun _ _ => 0) ⟨#[], #[.int .i64 0, .float .f64 0], []⟩).memory #[.int .i64 0, .float .f64 0] 8 = true := by kernel_rfl
set_option maxRecDepth 100000 in
theorem Plus_sz (os : Os) (H : Type) (enc : TypeId × Value → H) : Rows.fnPlusAgreesWithAddingZeroSpec.sizedB enc Tryz.prog Tryz.f7 false ((World.laidAll Tryz.prog os seatLaid1).forCall (fun _ _ => 0) ⟨#[], #[.int .i64 0, .float .f64 0], []⟩).memory #[.int .i64 0, .float .f64 0] 8 = true := by kernel_rfl
theorem Plus_byText : Rows.fnPlusAgreesWithAddingZeroRow.wfByText (OpenSpec.ofChange Rows.fnPlusAgreesWithAddingZeroSpec) = true := by kernel_rfl
end Go.Proofs.YtlhkbdeceogjgaaGreatDoor
