/- Closed facts of the row of FnModFloatsAgreesWithInts, and of the start at which it is shown to speak of something. Conditions: none. -/
import Derived.Test.YtnlngodbjkefhaaGreatDoorWit
namespace Go.Proofs.YtnlngodbjkefhaaGreatDoor
open Go
set_option maxRecDepth 100000 in
set_option maxHeartbeats 4000000 in
theorem ModFl_closed : joinedFacts Tryz.pinned.checked.prog 4 Tryz.f4 Rows.fnModFloatsAgreesWithIntsSpec Rows.fnModFloatsAgreesWithIntsRow = true := by
  unfold joinedFacts
  repeat' (with_reducible refine and_mk ?_ ?_)
  all_goals (as_aux_lemma => kernel_rfl)
set_option maxRecDepth 100000 in
theorem ModFl_ok (os : Os) : Input.okWideB Tryz.prog ((World.laidAll Tryz.prog os seatLaid0).forCall (fun _ _ => 0) ⟨#[], #[.float .f64 0, .float .f64 0], []⟩) 4 ⟨#[], #[.float .f64 0, .float .f64 0], []⟩ = true := by kernel_rfl
set_option maxRecDepth 100000 in
theorem ModFl_pre (os : Os) (H : Type) (enc : TypeId × Value → H) : Rows.fnModFloatsAgreesWithIntsSpec.preB enc Tryz.prog Tryz.f4 [] false ((World.laidAll Tryz.prog os seatLaid0).forCall (fun _ _ => 0) ⟨#[], #[.float .f64 0, .float .f64 0], []⟩).memory #[.float .f64 0, .float .f64 0] 8 = true := by kernel_rfl
set_option maxRecDepth 100000 in
theorem ModFl_sz (os : Os) (H : Type) (enc : TypeId × Value → H) : Rows.fnModFloatsAgreesWithIntsSpec.sizedB enc Tryz.prog Tryz.f4 false ((World.laidAll Tryz.prog os seatLaid0).forCall (fun _ _ => 0) ⟨#[], #[.float .f64 0, .float .f64 0], []⟩).memory #[.float .f64 0, .float .f64 0] 8 = true := by kernel_rfl
theorem ModFl_byText : Rows.fnModFloatsAgreesWithIntsRow.wfByText (OpenSpec.ofChange Rows.fnModFloatsAgreesWithIntsSpec) = true := by kernel_rfl
end Go.Proofs.YtnlngodbjkefhaaGreatDoor
