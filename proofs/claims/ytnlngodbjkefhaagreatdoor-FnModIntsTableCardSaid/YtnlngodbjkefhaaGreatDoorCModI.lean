/- Closed facts of the row of FnModIntsTable, and of the start at which it is shown to speak of something. Conditions: none. -/
import Derived.Test.YtnlngodbjkefhaaGreatDoorWit
namespace Go.Proofs.YtnlngodbjkefhaaGreatDoor
open Go
set_option maxRecDepth 100000 in
set_option maxHeartbeats 4000000 in
theorem ModI_closed : joinedFacts Tryz.pinned.checked.prog 3 Tryz.f3 Rows.fnModIntsTableSpec Rows.fnModIntsTableRow = true := by
  unfold joinedFacts
  repeat' (with_reducible refine and_mk ?_ ?_)
  all_goals (as_aux_lemma => kernel_rfl)
set_option maxRecDepth 100000 in
theorem ModI_ok (os : Os) : Input.okWideB Tryz.prog ((World.laidAll Tryz.prog os seatLaid0).forCall (fun _ _ => 0) ⟨#[], #[.int .i64 0, .int .i64 0], []⟩) 3 ⟨#[], #[.int .i64 0, .int .i64 0], []⟩ = true := by kernel_rfl
set_option maxRecDepth 100000 in
theorem ModI_pre (os : Os) (H : Type) (enc : TypeId × Value → H) : Rows.fnModIntsTableSpec.preB enc Tryz.prog Tryz.f3 [] false ((World.laidAll Tryz.prog os seatLaid0).forCall (fun _ _ => 0) ⟨#[], #[.int .i64 0, .int .i64 0], []⟩).memory #[.int .i64 0, .int .i64 0] 8 = true := by kernel_rfl
set_option maxRecDepth 100000 in
theorem ModI_sz (os : Os) (H : Type) (enc : TypeId × Value → H) : Rows.fnModIntsTableSpec.sizedB enc Tryz.prog Tryz.f3 false ((World.laidAll Tryz.prog os seatLaid0).forCall (fun _ _ => 0) ⟨#[], #[.int .i64 0, .int .i64 0], []⟩).memory #[.int .i64 0, .int .i64 0] 8 = true := by kernel_rfl
theorem ModI_byText : Rows.fnModIntsTableRow.wfByText (OpenSpec.ofChange Rows.fnModIntsTableSpec) = true := by kernel_rfl
end Go.Proofs.YtnlngodbjkefhaaGreatDoor
