/- Closed facts of the row of FnNeIntSlicesIsDifference, and of the start at which it is shown to speak of something. Conditions: none. -/
import Derived.Test.YtdklmpgjpnjdmaaGreatDoorWit
namespace Go.Proofs.YtdklmpgjpnjdmaaGreatDoor
open Go
set_option maxRecDepth 100000 in
set_option maxHeartbeats 4000000 in
theorem NeInts_closed : joinedFacts Tryz.pinned.checked.prog 6 Tryz.f6 Rows.fnNeIntSlicesIsDifferenceSpec Rows.fnNeIntSlicesIsDifferenceRow = true := by
  unfold joinedFacts
  repeat' (with_reducible refine and_mk ?_ ?_)
  all_goals (as_aux_lemma => kernel_rfl)
set_option maxRecDepth 100000 in
theorem NeInts_ok (os : Os) : Input.okWideB Tryz.prog ((World.laidAll Tryz.prog os seatLaid0).forCall (fun _ _ => 0) ⟨#[], #[.slice none 0 0, .slice none 0 0], []⟩) 6 ⟨#[], #[.slice none 0 0, .slice none 0 0], []⟩ = true := by kernel_rfl
set_option maxRecDepth 100000 in
theorem NeInts_pre (os : Os) (H : Type) (enc : TypeId × Value → H) : Rows.fnNeIntSlicesIsDifferenceSpec.preB enc Tryz.prog Tryz.f6 [] false ((World.laidAll Tryz.prog os seatLaid0).forCall (fun _ _ => 0) ⟨#[], #[.slice none 0 0, .slice none 0 0], []⟩).memory #[.slice none 0 0, .slice none 0 0] 8 = true := by kernel_rfl
set_option maxRecDepth 100000 in
theorem NeInts_sz (os : Os) (H : Type) (enc : TypeId × Value → H) : Rows.fnNeIntSlicesIsDifferenceSpec.sizedB enc Tryz.prog Tryz.f6 false ((World.laidAll Tryz.prog os seatLaid0).forCall (fun _ _ => 0) ⟨#[], #[.slice none 0 0, .slice none 0 0], []⟩).memory #[.slice none 0 0, .slice none 0 0] 8 = true := by kernel_rfl
theorem NeInts_byText : Rows.fnNeIntSlicesIsDifferenceRow.wfByText (OpenSpec.ofChange Rows.fnNeIntSlicesIsDifferenceSpec) = true := by kernel_rfl
end Go.Proofs.YtdklmpgjpnjdmaaGreatDoor
