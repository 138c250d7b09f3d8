/- Closed facts of the row of FnOpLtIntArraysLex, and of the start at which it is shown to speak of something. Conditions: none. -/
import Derived.Test.YtkdfilghfaljpaaGreatDoorWit
namespace Go.Proofs.YtkdfilghfaljpaaGreatDoor
open Go
set_option maxRecDepth 100000 in
set_option maxHeartbeats 4000000 in
theorem LtArrays_closed : joinedFacts Tryz.pinned.checked.prog 9 Tryz.f9 Rows.fnOpLtIntArraysLexSpec Rows.fnOpLtIntArraysLexRow = true := by
  unfold joinedFacts
  repeat' (with_reducible refine and_mk ?_ ?_)
  all_goals (as_aux_lemma => kernel_rfl)
set_option maxRecDepth 100000 in
theorem LtArrays_ok (os : Os) : Input.okWideB Tryz.prog ((World.laidAll Tryz.prog os seatLaid0).forCall (fun _ _ => 0) ⟨#[], #[.slice none 0 0, .slice none 0 0], []⟩) 9 ⟨#[], #[.slice none 0 0, .slice none 0 0], []⟩ = true := by kernel_rfl
set_option maxRecDepth 100000 in
theorem LtArrays_pre (os : Os) (H : Type) (enc : TypeId × Value → H) : Rows.fnOpLtIntArraysLexSpec.preB enc Tryz.prog Tryz.f9 [] false ((World.laidAll Tryz.prog os seatLaid0).forCall (fun _ _ => 0) ⟨#[], #[.slice none 0 0, .slice none 0 0], []⟩).memory #[.slice none 0 0, .slice none 0 0] 8 = true := by kernel_rfl
set_option maxRecDepth 100000 in
theorem LtArrays_sz (os : Os) (H : Type) (enc : TypeId × Value → H) : Rows.fnOpLtIntArraysLexSpec.sizedB enc Tryz.prog Tryz.f9 false ((World.laidAll Tryz.prog os seatLaid0).forCall (fun _ _ => 0) ⟨#[], #[.slice none 0 0, .slice none 0 0], []⟩).memory #[.slice none 0 0, .slice none 0 0] 8 = true := by kernel_rfl
theorem LtArrays_byText : Rows.fnOpLtIntArraysLexRow.wfByText (OpenSpec.ofChange Rows.fnOpLtIntArraysLexSpec) = true := by kernel_rfl
end Go.Proofs.YtkdfilghfaljpaaGreatDoor
