/- Closed facts of the row of FnEqIntSlicesIsElementwise, and of the start at which it is shown to speak of something. Conditions: none. -/
import Derived.Test.YtdklmpgjpnjdmaaGreatDoorWit
namespace Go.Proofs.YtdklmpgjpnjdmaaGreatDoor
open Go
set_option maxRecDepth 100000 in
set_option maxHeartbeats 4000000 in
theorem EqInts_closed : joinedFacts Tryz.pinned.checked.prog 5 Tryz.f5 Rows.fnEqIntSlicesIsElementwiseSpec Rows.fnEqIntSlicesIsElementwiseRow = true := by
  unfold joinedFacts
  repeat' (with_reducible refine and_mk ?_ ?_)
  all_goals (as_aux_lemma => kernel_rfl)
set_option maxRecDepth 100000 in
theorem EqInts_ok (os : Os) : Input.okWideB Tryz.prog ((World.laidAll Tryz.prog os seatLaid0).forCall (fun _ _ => 0) ⟨#[], #[.slice none 0 0, .slice none 0 0], []⟩) 5 ⟨#[], #[.slice none 0 0, .slice none 0 0], []⟩ = true := by kernel_rfl
set_option maxRecDepth 100000 in
theorem EqInts_pre (os : Os) (H : Type) (enc : TypeId × Value → H) : Rows.fnEqIntSlicesIsElementwiseSpec.preB enc Tryz.prog Tryz.f5 [] false ((World.laidAll Tryz.prog os seatLaid0).forCall (fun _ _ => 0) ⟨#[], #[.slice none 0 0, .slice none 0 0], []⟩).memory #[.slice none 0 0, .slice none 0 0] 8 = true := by kernel_rfl
set_option maxRecDepth 100000 in
theorem EqInts_sz (os : Os) (H : Type) (enc : TypeId × Value → H) : Rows.fnEqIntSlicesIsElementwiseSpec.sizedB enc Tryz.prog Tryz.f5 false ((World.laidAll Tryz.prog os seatLaid0).forCall (fun _ _ => 0) ⟨#[], #[.slice none 0 0, .slice none 0 0], []⟩).memory #[.slice none 0 0, .slice none 0 0] 8 = true := by kernel_rfl
theorem EqInts_byText : Rows.fnEqIntSlicesIsElementwiseRow.wfByText (OpenSpec.ofChange Rows.fnEqIntSlicesIsElementwiseSpec) = true := by kernel_rfl
end Go.Proofs.YtdklmpgjpnjdmaaGreatDoor
