/- Closed facts of the row of FnDivIntsTable, and of the start at which it is shown to speak of something. Conditions: none. -/
import Derived.Test.YtfmjeacjfnlhiaaGreatDoorWit
namespace Go.Proofs.YtfmjeacjfnlhiaaGreatDoor
open Go
set_option maxRecDepth 100000 in
set_option maxHeartbeats 4000000 in
theorem DivT_closed : joinedFacts Tryz.pinned.checked.prog 3 Tryz.f3 Rows.fnDivIntsTableSpec Rows.fnDivIntsTableRow = true := by
  unfold joinedFacts
  repeat' (with_reducible refine and_mk ?_ ?_)
  all_goals (as_aux_lemma => kernel_rfl)
set_option maxRecDepth 100000 in
theorem DivT_ok (os : Os) : Input.okWideB Tryz.prog ((World.laidAll Tryz.prog os seatLaid0).forCall (fun _ _ => 0) ⟨#[], #[.int .i64 0, .int .i64 0], []⟩) 3 ⟨#[], #[.int .i64 0, .int .i64 0], []⟩ = true := by kernel_rfl
set_option maxRecDepth 100000 in
theorem DivT_pre (os : Os) (H : Type) (enc : TypeId × Value → H) : Rows.fnDivIntsTableSpec.preB enc Tryz.prog Tryz.f3 [] false ((World.laidAll Tryz.prog os seatLaid0).forCall (fun _ _ => 0) ⟨#[], #[.int .i64 0, .int .i64 0], []⟩).memory #[.int .i64 0, .int .i64 0] 8 = true := by kernel_rfl
set_option maxRecDepth 100000 in
theorem DivT_sz (os : Os) (H : Type) (enc : TypeId × Value → H) : Rows.fnDivIntsTableSpec.sizedB enc Tryz.prog Tryz.f3 false ((World.laidAll Tryz.prog os seatLaid0).forCall (fun _ _ => 0) ⟨#[], #[.int .i64 0, .int .i64 0], []⟩).memory #[.int .i64 0, .int .i64 0] 8 = true := by kernel_rfl
theorem DivT_byText : Rows.fnDivIntsTableRow.wfByText (OpenSpec.ofChange Rows.fnDivIntsTableSpec) = true := by kernel_rfl
end Go.Proofs.YtfmjeacjfnlhiaaGreatDoor
