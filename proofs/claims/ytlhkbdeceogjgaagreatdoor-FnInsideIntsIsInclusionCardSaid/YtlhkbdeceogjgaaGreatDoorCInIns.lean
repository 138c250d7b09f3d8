/- Closed facts of the row of FnInsideIntsIsInclusion, and of the start at which it is shown to speak of something. Conditions: none. -/
import Derived.Test.YtlhkbdeceogjgaaGreatDoorWit
namespace Go.Proofs.YtlhkbdeceogjgaaGreatDoor
open Go
set_option maxRecDepth 100000 in
set_option maxHeartbeats 4000000 in
theorem InIns_closed : joinedFacts Tryz.pinned.checked.prog 8 Tryz.f8 Rows.fnInsideIntsIsInclusionSpec Rows.fnInsideIntsIsInclusionRow = true := by
  unfold joinedFacts
  repeat' (with_reducible refine and_mk ?_ ?_)
  all_goals (as_aux_lemma => kernel_rfl)
set_option maxRecDepth 100000 in
theorem InIns_ok (os : Os) : Input.okWideB Tryz.prog ((World.laidAll Tryz.prog os seatLaid1).forCall (fun _ _ => 0) ⟨#[], #[.slice none 0 0, .slice none 0 0], []⟩) 8 ⟨#[], #[.slice none 0 0, .slice none 0 0], []⟩ = true := by kernel_rfl
set_option maxRecDepth 100000 in
theorem InIns_pre (os : Os) (H : Type) (enc : TypeId × Value → H) : Rows.fnInsideIntsIsInclusionSpec.preB enc Tryz.prog Tryz.f8 [] false ((World.laidAll Tryz.prog os seatLaid1).forCall (fun _ _ => 0) ⟨#[], #[.slice none 0 0, .slice none 0 0], []⟩).memory #[.slice none 0 0, .slice none 0 0] 8 = true := by kernel_rfl
set_option maxRecDepth 100000 in
theorem InIns_sz (os : Os) (H : Type) (enc : TypeId × Value → H) : Rows.fnInsideIntsIsInclusionSpec.sizedB enc Tryz.prog Tryz.f8 false ((World.laidAll Tryz.prog os seatLaid1).forCall (fun _ _ => 0) ⟨#[], #[.slice none 0 0, .slice none 0 0], []⟩).memory #[.slice none 0 0, .slice none 0 0] 8 = true := by kernel_rfl
theorem InIns_byText : Rows.fnInsideIntsIsInclusionRow.wfByText (OpenSpec.ofChange Rows.fnInsideIntsIsInclusionSpec) = true := by kernel_rfl
end Go.Proofs.YtlhkbdeceogjgaaGreatDoor
