/- Closed facts of the row of FnOpLeIntFloatAgree, and of the start at which it is shown to speak of something. Conditions: none. -/
import Derived.Test.YtkdfilghfaljpaaGreatDoorWit
namespace Go.Proofs.YtkdfilghfaljpaaGreatDoor
open Go
set_option maxRecDepth 100000 in
set_option maxHeartbeats 4000000 in
theorem LeIntFloat_closed : joinedFacts Tryz.pinned.checked.prog 6 Tryz.f6 Rows.fnOpLeIntFloatAgreeSpec Rows.fnOpLeIntFloatAgreeRow = true := by
  unfold joinedFacts
  repeat' (with_reducible refine and_mk ?_ ?_)
  all_goals (as_aux_lemma => kernel_rfl)
set_option maxRecDepth 100000 in
theorem LeIntFloat_ok (os : Os) : Input.okWideB Tryz.prog ((World.laidAll Tryz.prog os seatLaid0).forCall (fun _ _ => 0) ⟨#[], #[.int .i64 0, .float .f64 0], []⟩) 6 ⟨#[], #[.int .i64 0, .float .f64 0], []⟩ = true := by kernel_rfl
set_option maxRecDepth 100000 in
theorem LeIntFloat_pre (os : Os) (H : Type) (enc : TypeId × Value → H) : Rows.fnOpLeIntFloatAgreeSpec.preB enc Tryz.prog Tryz.f6 [] false ((World.laidAll Tryz.prog os seatLaid0).forCall (fun _ _ => 0) ⟨#[], #[.int .i64 0, .float .f64 0], []⟩).memory #[.int .i64 0, .float .f64 0] 8 = true := by kernel_rfl
set_option maxRecDepth 100000 in
theorem LeIntFloat_sz (os : Os) (H : Type) (enc : TypeId × Value → H) : Rows.fnOpLeIntFloatAgreeSpec.sizedB enc Tryz.prog Tryz.f6 false ((World.laidAll Tryz.prog os seatLaid0).forCall (fun _ _ => 0) ⟨#[], #[.int .i64 0, .float .f64 0], []⟩).memory #[.int .i64 0, .float .f64 0] 8 = true := by kernel_rfl
theorem LeIntFloat_byText : Rows.fnOpLeIntFloatAgreeRow.wfByText (OpenSpec.ofChange Rows.fnOpLeIntFloatAgreeSpec) = true := by kernel_rfl
end Go.Proofs.YtkdfilghfaljpaaGreatDoor
