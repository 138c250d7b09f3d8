/- Closed facts of the row of FnOpLeFloatsExact, and of the start at which it is shown to speak of something. Conditions: none. -/
import Derived.Test.YtkdfilghfaljpaaGreatDoorWit
namespace Go.Proofs.YtkdfilghfaljpaaGreatDoor
open Go
set_option maxRecDepth 100000 in
set_option maxHeartbeats 4000000 in
theorem LeFloats_closed : joinedFacts Tryz.pinned.checked.prog 5 Tryz.f5 Rows.fnOpLeFloatsExactSpec Rows.fnOpLeFloatsExactRow = true := by
  unfold joinedFacts
  repeat' (with_reducible refine and_mk ?_ ?_)
  all_goals (as_aux_lemma => kernel_rfl)
set_option maxRecDepth 100000 in
theorem LeFloats_ok (os : Os) : Input.okWideB Tryz.prog ((World.laidAll Tryz.prog os seatLaid0).forCall (fun _ _ => 0) ⟨#[], #[.float .f64 0, .float .f64 0], []⟩) 5 ⟨#[], #[.float .f64 0, .float .f64 0], []⟩ = true := by kernel_rfl
set_option maxRecDepth 100000 in
theorem LeFloats_pre (os : Os) (H : Type) (enc : TypeId × Value → H) : Rows.fnOpLeFloatsExactSpec.preB enc Tryz.prog Tryz.f5 [] false ((World.laidAll Tryz.prog os seatLaid0).forCall (fun _ _ => 0) ⟨#[], #[.float .f64 0, .float .f64 0], []⟩).memory #[.float .f64 0, .float .f64 0] 8 = true := by kernel_rfl
set_option maxRecDepth 100000 in
theorem LeFloats_sz (os : Os) (H : Type) (enc : TypeId × Value → H) : Rows.fnOpLeFloatsExactSpec.sizedB enc Tryz.prog Tryz.f5 false ((World.laidAll Tryz.prog os seatLaid0).forCall (fun _ _ => 0) ⟨#[], #[.float .f64 0, .float .f64 0], []⟩).memory #[.float .f64 0, .float .f64 0] 8 = true := by kernel_rfl
theorem LeFloats_byText : Rows.fnOpLeFloatsExactRow.wfByText (OpenSpec.ofChange Rows.fnOpLeFloatsExactSpec) = true := by kernel_rfl
end Go.Proofs.YtkdfilghfaljpaaGreatDoor
