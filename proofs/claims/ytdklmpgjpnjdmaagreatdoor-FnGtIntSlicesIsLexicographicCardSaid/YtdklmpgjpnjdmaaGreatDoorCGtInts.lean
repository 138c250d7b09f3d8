/- Closed facts of the row of FnGtIntSlicesIsLexicographic, and of the start at which it is shown to speak of something. Conditions: none. -/
import Derived.Test.YtdklmpgjpnjdmaaGreatDoorWit
namespace Go.Proofs.YtdklmpgjpnjdmaaGreatDoor
open Go
set_option maxRecDepth 100000 in
set_option maxHeartbeats 4000000 in
theorem GtInts_closed : joinedFacts Tryz.pinned.checked.prog 7 Tryz.f7 Rows.fnGtIntSlicesIsLexicographicSpec Rows.fnGtIntSlicesIsLexicographicRow = true := by
  unfold joinedFacts
  repeat' (with_reducible refine and_mk ?_ ?_)
  all_goals (as_aux_lemma => kernel_rfl)
set_option maxRecDepth 100000 in
theorem GtInts_ok (os : Os) : Input.okWideB Tryz.prog ((World.laidAll Tryz.prog os seatLaid0).forCall (fun _ _ => 0) ⟨#[], #[.slice none 0 0, .slice none 0 0], []⟩) 7 ⟨#[], #[.slice none 0 0, .slice none 0 0], []⟩ = true := by kernel_rfl
set_option maxRecDepth 100000 in
theorem GtInts_pre (os : Os) (H : Type) (enc : TypeId × Value → H) : Rows.fnGtIntSlicesIsLexicographicSpec.preB enc Tryz.prog Tryz.f7 [] false ((World.laidAll Tryz.prog os seatLaid0).forCall (fun _ _ => 0) ⟨#[], #[.slice none 0 0, .slice none 0 0], []⟩).memory #[.slice none 0 0, .slice none 0 0] 8 = true := by kernel_rfl
set_option maxRecDepth 100000 in
theorem GtInts_sz (os : Os) (H : Type) (enc : TypeId × Value → H) : Rows.fnGtIntSlicesIsLexicographicSpec.sizedB enc Tryz.prog Tryz.f7 false ((World.laidAll Tryz.prog os seatLaid0).forCall (fun _ _ => 0) ⟨#[], #[.slice none 0 0, .slice none 0 0], []⟩).memory #[.slice none 0 0, .slice none 0 0] 8 = true := by kernel_rfl
theorem GtInts_byText : Rows.fnGtIntSlicesIsLexicographicRow.wfByText (OpenSpec.ofChange Rows.fnGtIntSlicesIsLexicographicSpec) = true := by kernel_rfl
end Go.Proofs.YtdklmpgjpnjdmaaGreatDoor
