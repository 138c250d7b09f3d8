/- Closed facts of the row of FnNeIsNegationOfEqIntFloat, and of the start at which it is shown to speak of something. Conditions: none. -/
import Derived.Test.YtdklmpgjpnjdmaaGreatDoorWit
namespace Go.Proofs.YtdklmpgjpnjdmaaGreatDoor
open Go
set_option maxRecDepth 100000 in
set_option maxHeartbeats 4000000 in
theorem NeEq_closed : joinedFacts Tryz.pinned.checked.prog 3 Tryz.f3 Rows.fnNeIsNegationOfEqIntFloatSpec Rows.fnNeIsNegationOfEqIntFloatRow = true := by
  unfold joinedFacts
  repeat' (with_reducible refine and_mk ?_ ?_)
  all_goals (as_aux_lemma => kernel_rfl)
set_option maxRecDepth 100000 in
theorem NeEq_ok (os : Os) : Input.okWideB Tryz.prog ((World.laidAll Tryz.prog os seatLaid0).forCall (fun _ _ => 0) ⟨#[], #[.int .i64 0, .float .f64 0], []⟩) 3 ⟨#[], #[.int .i64 0, .float .f64 0], []⟩ = true := by kernel_rfl
set_option maxRecDepth 100000 in
theorem NeEq_pre (os : Os) (H : Type) (enc : TypeId × Value → H) : Rows.fnNeIsNegationOfEqIntFloatSpec.preB enc Tryz.prog Tryz.f3 [] false ((World.laidAll Tryz.prog os seatLaid0).forCall (fun _ _ => 0) ⟨#[], #[.int .i64 0, .float .f64 0], []⟩).memory #[.int .i64 0, .float .f64 0] 8 = true := by kernel_rfl
set_option maxRecDepth 100000 in
theorem NeEq_sz (os : Os) (H : Type) (enc : TypeId × Value → H) : Rows.fnNeIsNegationOfEqIntFloatSpec.sizedB enc Tryz.prog Tryz.f3 false ((World.laidAll Tryz.prog os seatLaid0).forCall (fun _ _ => 0) ⟨#[], #[.int .i64 0, .float .f64 0], []⟩).memory #[.int .i64 0, .float .f64 0] 8 = true := by kernel_rfl
theorem NeEq_byText : Rows.fnNeIsNegationOfEqIntFloatRow.wfByText (OpenSpec.ofChange Rows.fnNeIsNegationOfEqIntFloatSpec) = true := by kernel_rfl
end Go.Proofs.YtdklmpgjpnjdmaaGreatDoor
