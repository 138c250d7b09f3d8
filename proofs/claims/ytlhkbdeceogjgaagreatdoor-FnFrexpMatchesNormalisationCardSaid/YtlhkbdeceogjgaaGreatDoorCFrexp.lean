/- Closed facts of the row of FnFrexpMatchesNormalisation, and of the start at which it is shown to speak of something. Conditions: none. -/
import Derived.Test.YtlhkbdeceogjgaaGreatDoorWit
namespace Go.Proofs.YtlhkbdeceogjgaaGreatDoor
open Go
set_option maxRecDepth 100000 in
set_option maxHeartbeats 4000000 in
theorem Frexp_closed : joinedFacts Tryz.pinned.checked.prog 3 Tryz.f3 Rows.fnFrexpMatchesNormalisationSpec Rows.fnFrexpMatchesNormalisationRow = true := by
  unfold joinedFacts
  repeat' (with_reducible refine and_mk ?_ ?_)
  all_goals (as_aux_lemma => kernel_rfl)
set_option maxRecDepth 100000 in
theorem Frexp_ok (os : Os) : Input.okWideB Tryz.prog ((World.laidAll Tryz.prog os seatLaid0).forCall (fun _ _ => 0) ⟨#[], #[.float .f64 0], []⟩) 3 ⟨#[], #[.float .f64 0], []⟩ = true := by kernel_rfl
set_option maxRecDepth 100000 in
theorem Frexp_pre (os : Os) (H : Type) (enc : TypeId × Value → H) : Rows.fnFrexpMatchesNormalisationSpec.preB enc Tryz.prog Tryz.f3 [] false ((World.laidAll Tryz.prog os seatLaid0).forCall (fun _ _ => 0) ⟨#[], #[.float .f64 0], []⟩).memory #[.float .f64 0] 8 = true := by kernel_rfl
set_option maxRecDepth 100000 in
theorem Frexp_sz (os : Os) (H : Type) (enc : TypeId × Value → H) : Rows.fnFrexpMatchesNormalisationSpec.sizedB enc Tryz.prog Tryz.f3 false ((World.laidAll Tryz.prog os seatLaid0).forCall (fun _ _ => 0) ⟨#[], #[.float .f64 0], []⟩).memory #[.float .f64 0] 8 = true := by kernel_rfl
theorem Frexp_byText : Rows.fnFrexpMatchesNormalisationRow.wfByText (OpenSpec.ofChange Rows.fnFrexpMatchesNormalisationSpec) = true := by kernel_rfl
end Go.Proofs.YtlhkbdeceogjgaaGreatDoor
