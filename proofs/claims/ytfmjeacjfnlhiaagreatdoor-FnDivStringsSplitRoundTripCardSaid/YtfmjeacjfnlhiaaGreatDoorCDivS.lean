/- Closed facts of the row of FnDivStringsSplitRoundTrip, and of the start at which it is shown to speak of something. Conditions: none. -/
import Derived.Test.YtfmjeacjfnlhiaaGreatDoorWit
namespace Go.Proofs.YtfmjeacjfnlhiaaGreatDoor
open Go
set_option maxRecDepth 100000 in
set_option maxHeartbeats 4000000 in
theorem DivS_closed : joinedFacts Tryz.pinned.checked.prog 4 Tryz.f4 Rows.fnDivStringsSplitRoundTripSpec Rows.fnDivStringsSplitRoundTripRow = true := by
  unfold joinedFacts
  repeat' (with_reducible refine and_mk ?_ ?_)
  all_goals (as_aux_lemma => kernel_rfl)
set_option maxRecDepth 100000 in
theorem DivS_ok (os : Os) : Input.okWideB Tryz.prog ((World.laidAll Tryz.prog os seatLaid0).forCall (fun _ _ => 0) ⟨#[], #[.string ByteArray.empty, .string ByteArray.empty], []⟩) 4 ⟨#[], #[.string ByteArray.empty, .string ByteArray.empty], []⟩ = true := by kernel_rfl
set_option maxRecDepth 100000 in
theorem DivS_pre (os : Os) (H : Type) (enc : TypeId × Value → H) : Rows.fnDivStringsSplitRoundTripSpec.preB enc Tryz.prog Tryz.f4 [] false ((World.laidAll Tryz.prog os seatLaid0).forCall (fun _ _ => 0) ⟨#[], #[.string ByteArray.empty, .string ByteArray.empty], []⟩).memory #[.string ByteArray.empty, .string ByteArray.empty] 8 = true := by kernel_rfl
set_option maxRecDepth 100000 in
theorem DivS_sz (os : Os) (H : Type) (enc : TypeId × Value → H) : Rows.fnDivStringsSplitRoundTripSpec.sizedB enc Tryz.prog Tryz.f4 false ((World.laidAll Tryz.prog os seatLaid0).forCall (fun _ _ => 0) ⟨#[], #[.string ByteArray.empty, .string ByteArray.empty], []⟩).memory #[.string ByteArray.empty, .string ByteArray.empty] 8 = true := by kernel_rfl
theorem DivS_byText : Rows.fnDivStringsSplitRoundTripRow.wfByText (OpenSpec.ofChange Rows.fnDivStringsSplitRoundTripSpec) = true := by kernel_rfl
end Go.Proofs.YtfmjeacjfnlhiaaGreatDoor
