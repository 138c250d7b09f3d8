/- Closed facts of the row of FnCompareDispatchCaseTable, and of the start at which it is shown to speak of something. Conditions: none. -/
import Derived.Test.YtlhkbdeceogjgaaGreatDoorWit
namespace Go.Proofs.YtlhkbdeceogjgaaGreatDoor
open Go
set_option maxRecDepth 100000 in
set_option maxHeartbeats 4000000 in
theorem Disp_closed : joinedFacts Tryz.pinned.checked.prog 10 Tryz.f10 Rows.fnCompareDispatchCaseTableSpec Rows.fnCompareDispatchCaseTableRow = true := by
  unfold joinedFacts
  repeat' (with_reducible refine and_mk ?_ ?_)
  all_goals (as_aux_lemma => kernel_rfl)
set_option maxRecDepth 100000 in
theorem Disp_ok (os : Os) : Input.okWideB Tryz.prog ((World.laidAll Tryz.prog os seatLaid1).forCall (fun _ _ => 0) ⟨#[], #[.int .i64 0, .int .i64 0, .float .f64 0, .string ByteArray.empty, .string ByteArray.empty], []⟩) 10 ⟨#[], #[.int .i64 0, .int .i64 0, .float .f64 0, .string ByteArray.empty, .string ByteArray.empty], []⟩ = true := by kernel_rfl
set_option maxRecDepth 100000 in
theorem Disp_pre (os : Os) (H : Type) (enc : TypeId × Value → H) : Rows.fnCompareDispatchCaseTableSpec.preB enc Tryz.prog Tryz.f10 [] false ((World.laidAll Tryz.prog os seatLaid1).forCall (fun _ _ => 0) ⟨#[], #[.int .i64 0, .int .i64 0, .float .f64 0, .string ByteArray.empty, .string ByteArray.empty], []⟩).memory #[.int .i64 0, .int .i64 0, .float .f64 0, .string ByteArray.empty, .string ByteArray.empty] 8 = true := by kernel_rfl
set_option maxRecDepth 100000 in
theorem Disp_sz (os : Os) (H : Type) (enc : TypeId × Value → H) : Rows.fnCompareDispatchCaseTableSpec.sizedB enc Tryz.prog Tryz.f10 false ((World.laidAll Tryz.prog os seatLaid1).forCall (fun _ _ => 0) ⟨#[], #[.int .i64 0, .int .i64 0, .float .f64 0, .string ByteArray.empty, .string ByteArray.empty], []⟩).memory #[.int .i64 0, .int .i64 0, .float .f64 0, .string ByteArray.empty, .string ByteArray.empty] 8 = true := by kernel_rfl
theorem Disp_byText : Rows.fnCompareDispatchCaseTableRow.wfByText (OpenSpec.ofChange Rows.fnCompareDispatchCaseTableSpec) = true := by kernel_rfl
end Go.Proofs.YtlhkbdeceogjgaaGreatDoor
