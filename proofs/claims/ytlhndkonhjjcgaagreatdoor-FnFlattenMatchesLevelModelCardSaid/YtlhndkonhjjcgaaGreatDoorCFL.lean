/- Closed facts of the row of FnFlattenMatchesLevelModel, and of the start at which it is shown to speak of something. Conditions: none. -/
import Derived.Test.YtlhndkonhjjcgaaGreatDoorWit
namespace Go.Proofs.YtlhndkonhjjcgaaGreatDoor
open Go
set_option maxRecDepth 100000 in
set_option maxHeartbeats 4000000 in
theorem FL_closed : joinedFacts Tryz.pinned.checked.prog 4 Tryz.f4 Rows.fnFlattenMatchesLevelModelSpec Rows.fnFlattenMatchesLevelModelRow = true := by
  unfold joinedFacts
  repeat' (with_reducible refine and_mk ?_ ?_)
  all_goals (as_aux_lemma => kernel_rfl)
set_option maxRecDepth 100000 in
theorem FL_ok (os : Os) : Input.okWideB Tryz.prog ((World.laidAll Tryz.prog os seatLaid0).forCall (fun _ _ => 0) ⟨#[], #[.slice none 0 0, .slice none 0 0, .bool false, .float .f64 0], []⟩) 4 ⟨#[], #[.slice none 0 0, .slice none 0 0, .bool false, .float .f64 0], []⟩ = true := by kernel_rfl
set_option maxRecDepth 100000 in
theorem FL_pre (os : Os) (H : Type) (enc : TypeId × Value → H) : Rows.fnFlattenMatchesLevelModelSpec.preB enc Tryz.prog Tryz.f4 [] false ((World.laidAll Tryz.prog os seatLaid0).forCall (fun _ _ => 0) ⟨#[], #[.slice none 0 0, .slice none 0 0, .bool false, .float .f64 0], []⟩).memory #[.slice none 0 0, .slice none 0 0, .bool false, .float .f64 0] 8 = true := by kernel_rfl
set_option maxRecDepth 100000 in
theorem FL_sz (os : Os) (H : Type) (enc : TypeId × Value → H) : Rows.fnFlattenMatchesLevelModelSpec.sizedB enc Tryz.prog Tryz.f4 false ((World.laidAll Tryz.prog os seatLaid0).forCall (fun _ _ => 0) ⟨#[], #[.slice none 0 0, .slice none 0 0, .bool false, .float .f64 0], []⟩).memory #[.slice none 0 0, .slice none 0 0, .bool false, .float .f64 0] 8 = true := by kernel_rfl
theorem FL_byText : Rows.fnFlattenMatchesLevelModelRow.wfByText (OpenSpec.ofChange Rows.fnFlattenMatchesLevelModelSpec) = true := by kernel_rfl
end Go.Proofs.YtlhndkonhjjcgaaGreatDoor
