/- Closed facts of the row of FnMinMaxByReverseComplementDuality, and of the start at which it is shown to speak of something. Conditions: none. -/
import Derived.Test.YtlhkbdeceogjgaaGreatDoorWit
namespace Go.Proofs.YtlhkbdeceogjgaaGreatDoor
open Go
set_option maxRecDepth 100000 in
set_option maxHeartbeats 4000000 in
theorem Dual_closed : joinedFacts Tryz.pinned.checked.prog 9 Tryz.f9 Rows.fnMinMaxByReverseComplementDualitySpec Rows.fnMinMaxByReverseComplementDualityRow = true := by
  unfold joinedFacts
  repeat' (with_reducible refine and_mk ?_ ?_)
  all_goals (as_aux_lemma => kernel_rfl)
set_option maxRecDepth 100000 in
theorem Dual_ok (os : Os) : Input.okWideB Tryz.prog ((World.laidAll Tryz.prog os seatLaid1).forCall (fun _ _ => 0) ⟨#[], #[.slice none 0 0, .slice none 0 0], []⟩) 9 ⟨#[], #[.slice none 0 0, .slice none 0 0], []⟩ = true := by kernel_rfl
set_option maxRecDepth 100000 in
theorem Dual_pre (os : Os) (H : Type) (enc : TypeId × Value → H) : Rows.fnMinMaxByReverseComplementDualitySpec.preB enc Tryz.prog Tryz.f9 [] false ((World.laidAll Tryz.prog os seatLaid1).forCall (fun _ _ => 0) ⟨#[], #[.slice none 0 0, .slice none 0 0], []⟩).memory #[.slice none 0 0, .slice none 0 0] 8 = true := by kernel_rfl
set_option maxRecDepth 100000 in
theorem Dual_sz (os : Os) (H : Type) (enc : TypeId × Value → H) : Rows.fnMinMaxByReverseComplementDualitySpec.sizedB enc Tryz.prog Tryz.f9 false ((World.laidAll Tryz.prog os seatLaid1).forCall (fun _ _ => 0) ⟨#[], #[.slice none 0 0, .slice none 0 0], []⟩).memory #[.slice none 0 0, .slice none 0 0] 8 = true := by kernel_rfl
theorem Dual_byText : Rows.fnMinMaxByReverseComplementDualityRow.wfByText (OpenSpec.ofChange Rows.fnMinMaxByReverseComplementDualitySpec) = true := by kernel_rfl
end Go.Proofs.YtlhkbdeceogjgaaGreatDoor
