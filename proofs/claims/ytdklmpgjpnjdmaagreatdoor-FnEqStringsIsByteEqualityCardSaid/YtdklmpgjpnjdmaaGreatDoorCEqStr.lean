/- Closed facts of the row of FnEqStringsIsByteEquality, and of the start at which it is shown to speak of something. Conditions: none. -/
import Derived.Test.YtdklmpgjpnjdmaaGreatDoorWit
namespace Go.Proofs.YtdklmpgjpnjdmaaGreatDoor
open Go
set_option maxRecDepth 100000 in
set_option maxHeartbeats 4000000 in
theorem EqStr_closed : joinedFacts Tryz.pinned.checked.prog 4 Tryz.f4 Rows.fnEqStringsIsByteEqualitySpec Rows.fnEqStringsIsByteEqualityRow = true := by
  unfold joinedFacts
  repeat' (with_reducible refine and_mk ?_ ?_)
  all_goals (as_aux_lemma => kernel_rfl)
set_option maxRecDepth 100000 in
theorem EqStr_ok (os : Os) : Input.okWideB Tryz.prog ((World.laidAll Tryz.prog os seatLaid0).forCall (fun _ _ => 0) ⟨#[], #[.string ByteArray.empty, .string ByteArray.empty], []⟩) 4 ⟨#[], #[.string ByteArray.empty, .string ByteArray.empty], []⟩ = true := by kernel_rfl
set_option maxRecDepth 100000 in
theorem EqStr_pre (os : Os) (H : Type) (enc : TypeId × Value → H) : Rows.fnEqStringsIsByteEqualitySpec.preB enc Tryz.prog Tryz.f4 [] false ((World.laidAll Tryz.prog os seatLaid0).forCall (fun _ _ => 0) ⟨#[], #[.string ByteArray.empty, .string ByteArray.empty], []⟩).memory #[.string ByteArray.empty, .string ByteArray.empty] 8 = true := by kernel_rfl
set_option maxRecDepth 100000 in
theorem EqStr_sz (os : Os) (H : Type) (enc : TypeId × Value → H) : Rows.fnEqStringsIsByteEqualitySpec.sizedB enc Tryz.prog Tryz.f4 false ((World.laidAll Tryz.prog os seatLaid0).forCall (fun _ _ => 0) ⟨#[], #[.string ByteArray.empty, .string ByteArray.empty], []⟩).memory #[.string ByteArray.empty, .string ByteArray.empty] 8 = true := by kernel_rfl
theorem EqStr_byText : Rows.fnEqStringsIsByteEqualityRow.wfByText (OpenSpec.ofChange Rows.fnEqStringsIsByteEqualitySpec) = true := by kernel_rfl
end Go.Proofs.YtdklmpgjpnjdmaaGreatDoor
