/- Closed facts of the row of FnOpLtStringsByteOrder, and of the start at which it is shown to speak of something. Conditions: none. -/
import Derived.Test.YtkdfilghfaljpaaGreatDoorWit
namespace Go.Proofs.YtkdfilghfaljpaaGreatDoor
open Go
set_option maxRecDepth 100000 in
set_option maxHeartbeats 4000000 in
theorem LtStrings_closed : joinedFacts Tryz.pinned.checked.prog 8 Tryz.f8 Rows.fnOpLtStringsByteOrderSpec Rows.fnOpLtStringsByteOrderRow = true := by
  unfold joinedFacts
  repeat' (with_reducible refine and_mk ?_ ?_)
  all_goals (as_aux_lemma => kernel_rfl)
set_option maxRecDepth 100000 in
theorem LtStrings_ok (os : Os) : Input.okWideB Tryz.prog ((World.laidAll Tryz.prog os seatLaid0).forCall (fun _ _ => 0) ⟨#[], #[.string ByteArray.empty, .string ByteArray.empty], []⟩) 8 ⟨#[], #[.string ByteArray.empty, .string ByteArray.empty], []⟩ = true := by kernel_rfl
set_option maxRecDepth 100000 in
theorem LtStrings_pre (os : Os) (H : Type) (enc : TypeId × Value → H) : Rows.fnOpLtStringsByteOrderSpec.preB enc Tryz.prog Tryz.f8 [] false ((World.laidAll Tryz.prog os seatLaid0).forCall (fun _ _ => 0) ⟨#[], #[.string ByteArray.empty, .string ByteArray.empty], []⟩).memory #[.string ByteArray.empty, .string ByteArray.empty] 8 = true := by kernel_rfl
set_option maxRecDepth 100000 in
theorem LtStrings_sz (os : Os) (H : Type) (enc : TypeId × Value → H) : Rows.fnOpLtStringsByteOrderSpec.sizedB enc Tryz.prog Tryz.f8 false ((World.laidAll Tryz.prog os seatLaid0).forCall (fun _ _ => 0) ⟨#[], #[.string ByteArray.empty, .string ByteArray.empty], []⟩).memory #[.string ByteArray.empty, .string ByteArray.empty] 8 = true := by kernel_rfl
theorem LtStrings_byText : Rows.fnOpLtStringsByteOrderRow.wfByText (OpenSpec.ofChange Rows.fnOpLtStringsByteOrderSpec) = true := by kernel_rfl
end Go.Proofs.YtkdfilghfaljpaaGreatDoor
