/- Closed facts of the row of FnFlattenDepthsCompose, and of the start at which it is shown to speak of something. Conditions: none. -/
import Derived.Test.YtlhndkonhjjcgaaGreatDoorWit
namespace Go.Proofs.YtlhndkonhjjcgaaGreatDoor
open Go
set_option maxRecDepth 100000 in
set_option maxHeartbeats 4000000 in
theorem FC_closed : joinedFacts Tryz.pinned.checked.prog 3 Tryz.f3 Rows.fnFlattenDepthsComposeSpec Rows.fnFlattenDepthsComposeRow = true := by
  unfold joinedFacts
  repeat' (with_reducible refine and_mk ?_ ?_)
  all_goals (as_aux_lemma => kernel_rfl)
set_option maxRecDepth 100000 in
theorem FC_ok (os : Os) : Input.okWideB Tryz.prog ((World.laidAll Tryz.prog os seatLaid0).forCall (fun _ _ => 0) ⟨#[], #[.slice none 0 0, .slice none 0 0, .int .i64 0, .int .i64 0], []⟩) 3 ⟨#[], #[.slice none 0 0, .slice none 0 0, .int .i64 0, .int .i64 0], []⟩ = true := by kernel_rfl
set_option maxRecDepth 100000 in
theorem FC_pre (os : Os) (H : Type) (enc : TypeId × Value → H) : Rows.fnFlattenDepthsComposeSpec.preB enc Tryz.prog Tryz.f3 [] false ((World.laidAll Tryz.prog os seatLaid0).forCall (fun _ _ => 0) ⟨#[], #[.slice none 0 0, .slice none 0 0, .int .i64 0, .int .i64 0], []⟩).memory #[.slice none 0 0, .slice none 0 0, .int .i64 0, .int .i64 0] 8 = true := by kernel_rfl
set_option maxRecDepth 100000 in
theorem FC_sz (os : Os) (H : Type) (enc : TypeId × Value → H) : Rows.fnFlattenDepthsComposeSpec.sizedB enc Tryz.prog Tryz.f3 false ((World.laidAll Tryz.prog os seatLaid0).forCall (fun _ _ => 0) ⟨#[], #[.slice none 0 0, .slice none 0 0, .int .i64 0, .int .i64 0], []⟩).memory #[.slice none 0 0, .slice none 0 0, .int .i64 0, .int .i64 0] 8 = true := by kernel_rfl
theorem FC_byText : Rows.fnFlattenDepthsComposeRow.wfByText (OpenSpec.ofChange Rows.fnFlattenDepthsComposeSpec) = true := by kernel_rfl
end Go.Proofs.YtlhndkonhjjcgaaGreatDoor
