/- Closed facts of the row of FnOpLeNumbersBeforeStrings, and of the start at which it is shown to speak of something. Conditions: none. -/
import Derived.Test.YtkdfilghfaljpaaGreatDoorWit
namespace Go.Proofs.YtkdfilghfaljpaaGreatDoor
open Go
set_option maxRecDepth 100000 in
set_option maxHeartbeats 4000000 in
theorem LeNumStr_closed : joinedFacts Tryz.pinned.checked.prog 7 Tryz.f7 Rows.fnOpLeNumbersBeforeStringsSpec Rows.fnOpLeNumbersBeforeStringsRow = true := by
  unfold joinedFacts
  repeat' (with_reducible refine and_mk ?_ ?_)
  all_goals (as_aux_lemma => kernel_rfl)
set_option maxRecDepth 100000 in
theorem LeNumStr_ok (os : Os) : Input.okWideB Tryz.prog ((World.laidAll Tryz.prog os seatLaid0).forCall (fun _ _ => 0) ⟨#[], #[.int .i64 0, .string ByteArray.empty], []⟩) 7 ⟨#[], #[.int .i64 0, .string ByteArray.empty], []⟩ = true := by kernel_rfl
set_option maxRecDepth 100000 in
theorem LeNumStr_pre (os : Os) (H : Type) (enc : TypeId × Value → H) : Rows.fnOpLeNumbersBeforeStringsSpec.preB enc Tryz.prog Tryz.f7 [] false ((World.laidAll Tryz.prog os seatLaid0).forCall (fun _ _ => 0) ⟨#[], #[.int .i64 0, .string ByteArray.empty], []⟩).memory #[.int .i64 0, .string ByteArray.empty] 8 = true := by kernel_rfl
set_option maxRecDepth 100000 in
theorem LeNumStr_sz (os : Os) (H : Type) (enc : TypeId × Value → H) : Rows.fnOpLeNumbersBeforeStringsSpec.sizedB enc Tryz.prog Tryz.f7 false ((World.laidAll Tryz.prog os seatLaid0).forCall (fun _ _ => 0) ⟨#[], #[.int .i64 0, .string ByteArray.empty], []⟩).memory #[.int .i64 0, .string ByteArray.empty] 8 = true := by kernel_rfl
theorem LeNumStr_byText : Rows.fnOpLeNumbersBeforeStringsRow.wfByText (OpenSpec.ofChange Rows.fnOpLeNumbersBeforeStringsSpec) = true := by kernel_rfl
end Go.Proofs.YtkdfilghfaljpaaGreatDoor
