/- Closed facts of the row of FnMaxIsGreatestElement, and of the start at which it is shown to speak of something. Conditions: none. -/
import Derived.Test.YtlhkbdeceogjgaaGreatDoorWit
namespace Go.Proofs.YtlhkbdeceogjgaaGreatDoor
open Go
set_option maxRecDepth 100000 in
set_option maxHeartbeats 4000000 in
theorem Max_closed : joinedFacts Tryz.pinned.checked.prog 11 Tryz.f11 Rows.fnMaxIsGreatestElementSpec Rows.fnMaxIsGreatestElementRow = true := by
  unfold joinedFacts
  repeat' (with_reducible refine and_mk ?_ ?_)
  all_goals (as_aux_lemma => kernel_rfl)
set_option maxRecDepth 100000 in
theorem Max_ok (os : Os) : Input.okWideB Tryz.prog ((World.laidAll Tryz.prog os seatLaid1).forCall (fun _ _ => 0) ⟨#[], #[.slice none 0 0], []⟩) 11 ⟨#[], #[.slice none 0 0], []⟩ = true := by kernel_rfl
set_option maxRecDepth 100000 in
theorem Max_pre (os : Os) (H : Type) (enc : TypeId × Value → H) : Rows.fnMaxIsGreatestElementSpec.preB enc Tryz.prog Tryz.f11 [] false ((World.laidAll Tryz.prog os seatLaid1).forCall (fun _ _ => 0) ⟨#[], #[.slice none 0 0], []⟩).memory #[.slice none 0 0] 8 = true := by kernel_rfl
set_option maxRecDepth 100000 in
theorem Max_sz (os : Os) (H : Type) (enc : TypeId × Value → H) : Rows.fnMaxIsGreatestElementSpec.sizedB enc Tryz.prog Tryz.f11 false ((World.laidAll Tryz.prog os seatLaid1).forCall (fun _ _ => 0) ⟨#[], #[.slice none 0 0], []⟩).memory #[.slice none 0 0] 8 = true := by kernel_rfl
theorem Max_byText : Rows.fnMaxIsGreatestElementRow.wfByText (OpenSpec.ofChange Rows.fnMaxIsGreatestElementSpec) = true := by kernel_rfl
end Go.Proofs.YtlhkbdeceogjgaaGreatDoor
