/- Closed facts of the row of FnModfMatchesBinaryTruncation, and of the start at which it is shown to speak of something. Conditions: none. -/
import Derived.Test.YtlhkbdeceogjgaaGreatDoorWit
namespace Go.Proofs.YtlhkbdeceogjgaaGreatDoor
open Go
set_option maxRecDepth 100000 in
set_option maxHeartbeats 4000000 in
theorem Modf_closed : joinedFacts Tryz.pinned.checked.prog 4 Tryz.f4 Rows.fnModfMatchesBinaryTruncationSpec Rows.fnModfMatchesBinaryTruncationRow = true := by
  unfold joinedFacts
  repeat' (with_reducible refine and_mk ?_ ?_)
  all_goals (as_aux_lemma => kernel_rfl)
set_option maxRecDepth 100000 in
theorem Modf_ok (os : Os) : Input.okWideB Tryz.prog ((World.laidAll Tryz.prog os seatLaid0).forCall (fun _ _ => 0) ⟨#[], #[.float .f64 0], []⟩) 4 ⟨#[], #[.float .f64 0], []⟩ = true := by kernel_rfl
set_option maxRecDepth 100000 in
theorem Modf_pre (os : Os) (H : Type) (enc : TypeId × Value → H) : Rows.fnModfMatchesBinaryTruncationSpec.preB enc Tryz.prog Tryz.f4 [] false ((World.laidAll Tryz.prog os seatLaid0).forCall (fun _ _ => 0) ⟨#[], #[.float .f64 0], []⟩).memory #[.float .f64 0] 8 = true := by kernel_rfl
set_option maxRecDepth 100000 in
theorem Modf_sz (os : Os) (H : Type) (enc : TypeId × Value → H) : Rows.fnModfMatchesBinaryTruncationSpec.sizedB enc Tryz.prog Tryz.f4 false ((World.laidAll Tryz.prog os seatLaid0).forCall (fun _ _ => 0) ⟨#[], #[.float .f64 0], []⟩).memory #[.float .f64 0] 8 = true := by kernel_rfl
theorem Modf_byText : Rows.fnModfMatchesBinaryTruncationRow.wfByText (OpenSpec.ofChange Rows.fnModfMatchesBinaryTruncationSpec) = true := by kernel_rfl
end Go.Proofs.YtlhkbdeceogjgaaGreatDoor
