/- Closed facts of the row of FnDivIntsAgreesWithFloats, and of the start at which it is shown to speak of something. Conditions: none. -/
import Derived.Test.YtnlngodbjkefhaaGreatDoorWit
namespace Go.Proofs.YtnlngodbjkefhaaGreatDoor
open Go
set_option maxRecDepth 100000 in
set_option maxHeartbeats 4000000 in
theorem DivA_closed : joinedFacts Tryz.pinned.checked.prog 5 Tryz.f5 Rows.fnDivIntsAgreesWithFloatsSpec Rows.fnDivIntsAgreesWithFloatsRow = true := by
  unfold joinedFacts
  repeat' (with_reducible refine and_mk ?_ ?_)
  all_goals (as_aux_lemma => kernel_rfl)
set_option maxRecDepth 100000 in
theorem DivA_ok (os : Os) : Input.okWideB Tryz.prog ((World.laidAll Tryz.prog os seatLaid1).forCall (fun _ _ => 0) ⟨#[], #[.int .i64 0, .int .i64 0], []⟩) 5 ⟨#[], #[.int .i64 0, .int .i64 0], []⟩ = true := by kernel_rfl
set_option maxRecDepth 100000 in
theorem DivA_pre (os : Os) (H : Type) (enc : TypeId × Value → H) : Rows.fnDivIntsAgreesWithFloatsSpec.preB enc Tryz.prog Tryz.f5 [] false ((World.laidAll Tryz.prog os seatLaid1).forCall (fun _ _ => 0) ⟨#[], #[.int .i64 0, .int .i64 0], []⟩).memory #[.int .i64 0, .int .i64 0] 8 = true := by kernel_rfl
set_option maxRecDepth 100000 in
theorem DivA_sz (os : Os) (H : Type) (enc : TypeId × Value → H) : Rows.fnDivIntsAgreesWithFloatsSpec.sizedB enc Tryz.prog Tryz.f5 false ((World.laidAll Tryz.prog os seatLaid1).forCall (fun _ _ => 0) ⟨#[], #[.int .i64 0, .int .i64 0], []⟩).memory #[.int .i64 0, .int .i64 0] 8 = true := by kernel_rfl
theorem DivA_byText : Rows.fnDivIntsAgreesWithFloatsRow.wfByText (OpenSpec.ofChange Rows.fnDivIntsAgreesWithFloatsSpec) = true := by kernel_rfl
end Go.Proofs.YtnlngodbjkefhaaGreatDoor
