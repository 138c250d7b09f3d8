/- Closed facts of the row of FnGtTypeOrder, and of the start at which it is shown to speak of something. Conditions: none. -/
import Derived.Test.YtdklmpgjpnjdmaaGreatDoorWit
namespace Go.Proofs.YtdklmpgjpnjdmaaGreatDoor
open Go
set_option maxRecDepth 100000 in
set_option maxHeartbeats 4000000 in
theorem GtType_closed : joinedFacts Tryz.pinned.checked.prog 8 Tryz.f8 Rows.fnGtTypeOrderSpec Rows.fnGtTypeOrderRow = true := by
  unfold joinedFacts
  repeat' (with_reducible refine and_mk ?_ ?_)
  all_goals (as_aux_lemma => kernel_rfl)
set_option maxRecDepth 100000 in
theorem GtType_ok (os : Os) : Input.okWideB Tryz.prog ((World.laidAll Tryz.prog os seatLaid0).forCall (fun _ _ => 0) ⟨#[], #[.int .i64 0, .string ByteArray.empty, .bool false], []⟩) 8 ⟨#[], #[.int .i64 0, .string ByteArray.empty, .bool false], []⟩ = true := by kernel_rfl
set_option maxRecDepth 100000 in
theorem GtType_pre (os : Os) (H : Type) (enc : TypeId × Value → H) : Rows.fnGtTypeOrderSpec.preB enc Tryz.prog Tryz.f8 [] false ((World.laidAll Tryz.prog os seatLaid0).forCall (fun _ _ => 0) ⟨#[], #[.int .i64 0, .string ByteArray.empty, .bool false], []⟩).memory #[.int .i64 0, .string ByteArray.empty, .bool false] 8 = true := by kernel_rfl
set_option maxRecDepth 100000 in
theorem GtType_sz (os : Os) (H : Type) (enc : TypeId × Value → H) : Rows.fnGtTypeOrderSpec.sizedB enc Tryz.prog Tryz.f8 false ((World.laidAll Tryz.prog os seatLaid0).forCall (fun _ _ => 0) ⟨#[], #[.int .i64 0, .string ByteArray.empty, .bool false], []⟩).memory #[.int .i64 0, .string ByteArray.empty, .bool false] 8 = true := by kernel_rfl
theorem GtType_byText : Rows.fnGtTypeOrderRow.wfByText (OpenSpec.ofChange Rows.fnGtTypeOrderSpec) = true := by kernel_rfl
end Go.Proofs.YtdklmpgjpnjdmaaGreatDoor
