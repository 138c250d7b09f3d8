/- Closed facts of the row of FnInsideStringIsSubstring, and of the start at which it is shown to speak of something. Conditions: none. -/
import Derived.Test.YtlhkbdeceogjgaaGreatDoorWit
namespace Go.Proofs.YtlhkbdeceogjgaaGreatDoor
open Go
set_option maxRecDepth 100000 in
set_option maxHeartbeats 4000000 in
theorem InStr_closed : joinedFacts Tryz.pinned.checked.prog 5 Tryz.f5 Rows.fnInsideStringIsSubstringSpec Rows.fnInsideStringIsSubstringRow = true := by
  unfold joinedFacts
  repeat' (with_reducible refine and_mk ?_ ?_)
  all_goals (as_aux_lemma => kernel_rfl)
set_option maxRecDepth 100000 in
theorem InStr_ok (os : Os) : Input.okWideB Tryz.prog ((World.laidAll Tryz.prog os seatLaid1).forCall (fun _ _ => 0) ⟨#[], #[.string ByteArray.empty, .string ByteArray.empty], []⟩) 5 ⟨#[], #[.string ByteArray.empty, .string ByteArray.empty], []⟩ = true := by kernel_rfl
set_option maxRecDepth 100000 in
theorem InStr_pre (os : Os) (H : Type) (enc : TypeId × Value → H) : Rows.fnInsideStringIsSubstringSpec.preB enc Tryz.prog Tryz.f5 [] false ((World.laidAll Tryz.prog os seatLaid1).forCall (fun _ _ => 0) ⟨#[], #[.string ByteArray.empty, .string ByteArray.empty], []⟩).memory #[.string ByteArray.empty, .string ByteArray.empty] 8 = true := by kernel_rfl
set_option maxRecDepth 100000 in
theorem InStr_sz (os : Os) (H : Type) (enc : TypeId × Value → H) : Rows.fnInsideStringIsSubstringSpec.sizedB enc Tryz.prog Tryz.f5 false ((World.laidAll Tryz.prog os seatLaid1).forCall (fun _ _ => 0) ⟨#[], #[.string ByteArray.empty, .string ByteArray.empty], []⟩).memory #[.string ByteArray.empty, .string ByteArray.empty] 8 = true := by kernel_rfl
theorem InStr_byText : Rows.fnInsideStringIsSubstringRow.wfByText (OpenSpec.ofChange Rows.fnInsideStringIsSubstringSpec) = true := by kernel_rfl
end Go.Proofs.YtlhkbdeceogjgaaGreatDoor
