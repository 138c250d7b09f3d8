/- Closed facts of the row of FnIndicesMirror, and of the start at which it is shown to speak of something. Conditions: none. -/
import Derived.Test.YtlhkbdeceogjgaaGreatDoorWit
namespace Go.Proofs.YtlhkbdeceogjgaaGreatDoor
open Go
set_option maxRecDepth 100000 in
set_option maxHeartbeats 4000000 in
theorem Idx_closed : joinedFacts Tryz.pinned.checked.prog 6 Tryz.f6 Rows.fnIndicesMirrorSpec Rows.fnIndicesMirrorRow = true := by
  unfold joinedFacts
  repeat' (with_reducible refine and_mk ?_ ?_)
  all_goals (as_aux_lemma => kernel_rfl)
set_option maxRecDepth 100000 in
theorem Idx_ok (os : Os) : Input.okWideB Tryz.prog ((World.laidAll Tryz.prog os seatLaid1).forCall (fun _ _ => 0) ⟨#[], #[.slice none 0 0, .slice none 0 0], []⟩) 6 ⟨#[], #[.slice none 0 0, .slice none 0 0], []⟩ = true := by kernel_rfl
set_option maxRecDepth 100000 in
theorem Idx_pre (os : Os) (H : Type) (enc : TypeId × Value → H) : Rows.fnIndicesMirrorSpec.preB enc Tryz.prog Tryz.f6 [] false ((World.laidAll Tryz.prog os seatLaid1).forCall (fun _ _ => 0) ⟨#[], #[.slice none 0 0, .slice none 0 0], []⟩).memory #[.slice none 0 0, .slice none 0 0] 8 = true := by kernel_rfl
set_option maxRecDepth 100000 in
theorem Idx_sz (os : Os) (H : Type) (enc : TypeId × Value → H) : Rows.fnIndicesMirrorSpec.sizedB enc Tryz.prog Tryz.f6 false ((World.laidAll Tryz.prog os seatLaid1).forCall (fun _ _ => 0) ⟨#[], #[.slice none 0 0, .slice none 0 0], []⟩).memory #[.slice none 0 0, .slice none 0 0] 8 = true := by kernel_rfl
theorem Idx_byText : Rows.fnIndicesMirrorRow.wfByText (OpenSpec.ofChange Rows.fnIndicesMirrorSpec) = true := by kernel_rfl
end Go.Proofs.YtlhkbdeceogjgaaGreatDoor
