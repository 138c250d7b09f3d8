/- Closed facts of the row of FnOpGeBoolTable, and of the start at which it is shown to speak of something. Conditions: none. -/
import Derived.Test.YtkdfilghfaljpaaGreatDoorWit
namespace Go.Proofs.YtkdfilghfaljpaaGreatDoor
open Go
set_option maxRecDepth 100000 in
set_option maxHeartbeats 4000000 in
theorem GeBool_closed : joinedFacts Tryz.pinned.checked.prog 4 Tryz.f4 Rows.fnOpGeBoolTableSpec Rows.fnOpGeBoolTableRow = true := by
  unfold joinedFacts
  repeat' (with_reducible refine and_mk ?_ ?_)
  all_goals (as_aux_lemma => kernel_rfl)
set_option maxRecDepth 100000 in
theorem GeBool_ok (os : Os) : Input.okWideB Tryz.prog ((World.laidAll Tryz.prog os seatLaid0).forCall (fun _ _ => 0) ⟨#[], #[.bool false, .bool false], []⟩) 4 ⟨#[], #[.bool false, .bool false], []⟩ = true := by kernel_rfl
set_option maxRecDepth 100000 in
theorem GeBool_pre (os : Os) (H : Type) (enc : TypeId × Value → H) : Rows.fnOpGeBoolTableSpec.preB enc Tryz.prog Tryz.f4 [] false ((World.laidAll Tryz.prog os seatLaid0).forCall (fun _ _ => 0) ⟨#[], #[.bool false, .bool false], []⟩).memory #[.bool false, .bool false] 8 = true := by kernel_rfl
set_option maxRecDepth 100000 in
theorem GeBool_sz (os : Os) (H : Type) (enc : TypeId × Value → H) : Rows.fnOpGeBoolTableSpec.sizedB enc Tryz.prog Tryz.f4 false ((World.laidAll Tryz.prog os seatLaid0).forCall (fun _ _ => 0) ⟨#[], #[.bool false, .bool false], []⟩).memory #[.bool false, .bool false] 8 = true := by kernel_rfl
theorem GeBool_byText : Rows.fnOpGeBoolTableRow.wfByText (OpenSpec.ofChange Rows.fnOpGeBoolTableSpec) = true := by kernel_rfl
end Go.Proofs.YtkdfilghfaljpaaGreatDoor
