/- Closed facts of the row of FnOpGeIntsExact, and of the start at which it is shown to speak of something. Conditions: none. -/
import Derived.Test.YtkdfilghfaljpaaGreatDoorWit
namespace Go.Proofs.YtkdfilghfaljpaaGreatDoor
open Go
set_option maxRecDepth 100000 in
set_option maxHeartbeats 4000000 in
theorem GeInts_closed : joinedFacts Tryz.pinned.checked.prog 3 Tryz.f3 Rows.fnOpGeIntsExactSpec Rows.fnOpGeIntsExactRow = true := by
  unfold joinedFacts
  repeat' (with_reducible refine and_mk ?_ ?_)
  all_goals (as_aux_lemma => kernel_rfl)
set_option maxRecDepth 100000 in
theorem GeInts_ok (os : Os) : Input.okWideB Tryz.prog ((World.laidAll Tryz.prog os seatLaid0).forCall (fun _ _ => 0) ⟨#[], #[.int .i64 0, .int .i64 0], []⟩) 3 ⟨#[], #[.int .i64 0, .int .i64 0], []⟩ = true := by kernel_rfl
set_option maxRecDepth 100000 in
theorem GeInts_pre (os : Os) (H : Type) (enc : TypeId × Value → H) : Rows.fnOpGeIntsExactSpec.preB enc Tryz.prog Tryz.f3 [] false ((World.laidAll Tryz.prog os seatLaid0).forCall (fun _ _ => 0) ⟨#[], #[.int .i64 0, .int .i64 0], []⟩).memory #[.int .i64 0, .int .i64 0] 8 = true := by kernel_rfl
set_option maxRecDepth 100000 in
theorem GeInts_sz (os : Os) (H : Type) (enc : TypeId × Value → H) : Rows.fnOpGeIntsExactSpec.sizedB enc Tryz.prog Tryz.f3 false ((World.laidAll Tryz.prog os seatLaid0).forCall (fun _ _ => 0) ⟨#[], #[.int .i64 0, .int .i64 0], []⟩).memory #[.int .i64 0, .int .i64 0] 8 = true := by kernel_rfl
theorem GeInts_byText : Rows.fnOpGeIntsExactRow.wfByText (OpenSpec.ofChange Rows.fnOpGeIntsExactSpec) = true := by kernel_rfl
end Go.Proofs.YtkdfilghfaljpaaGreatDoor
