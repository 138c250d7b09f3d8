/- Closed facts of the row of FnMarshalStringEscapes, and of the start at which it is shown to speak of something. Conditions: none. -/
import Derived.Test.YtfmjeacjfnlhiaaGreatFmtWit
import Derived.SevenTiedAt
import Derived.Test.YtfmjeacjfnlhiaaGreatFmtCards
namespace Go.Proofs.YtfmjeacjfnlhiaaGreatFmt
open Go
set_option maxRecDepth 100000 in
set_option maxHeartbeats 4000000 in
theorem MSE_wf : Rows.fnMarshalStringEscapesRow.wfByText (OpenSpec.ofChange Rows.fnMarshalStringEscapesSpec) = true := by kernel_rfl
set_option maxRecDepth 100000 in
set_option maxHeartbeats 4000000 in
theorem MSE_tie : namedTie Tryz.pinned.checked.prog Rows.fnMarshalStringEscapesRow.namedList (OpenSpec.ofChange Rows.fnMarshalStringEscapesSpec).vars = true := by kernel_rfl
set_option maxRecDepth 100000 in
set_option maxHeartbeats 4000000 in
theorem MSE_named : Tryz.pinned.checked.prog.funcNamed Rows.fnMarshalStringEscapesRow.func = some 12 := by kernel_rfl
set_option maxRecDepth 100000 in
set_option maxHeartbeats 4000000 in
theorem MSE_read : (Tryz.f12.params.toList.all fun t => Tryz.pinned.checked.prog.readableRec t) = true := by kernel_rfl
set_option maxRecDepth 100000 in
set_option maxHeartbeats 4000000 in
theorem MSE_inp : Rows.fnMarshalStringEscapesRow.inPlace = Tryz.pinned.checked.prog.inPlace 12 := by kernel_rfl
set_option maxRecDepth 100000 in
set_option maxHeartbeats 4000000 in
theorem MSE_unf : Rows.fnMarshalStringEscapesRow.unfollowed = Tryz.pinned.checked.prog.unfollowed 12 := by kernel_rfl
set_option maxRecDepth 100000 in
set_option maxHeartbeats 4000000 in
theorem MSE_rec : Rows.fnMarshalStringEscapesRow.recurses = Tryz.pinned.checked.prog.recurses 12 := by kernel_rfl
set_option maxRecDepth 100000 in
set_option maxHeartbeats 4000000 in
theorem MSE_vars : Rows.fnMarshalStringEscapesRow.named = Tryz.pinned.checked.prog.varsNamed 12 := by kernel_rfl
set_option maxRecDepth 100000 in
set_option maxHeartbeats 4000000 in
theorem MSE_maps : Rows.fnMarshalStringEscapesRow.maps = (Tryz.f12.params.toList ++ (OpenSpec.ofChange Rows.fnMarshalStringEscapesSpec).bare.plain.varTypes Tryz.pinned.checked.prog).any (Tryz.pinned.checked.prog.mapsRec ·) := by kernel_rfl
set_option maxRecDepth 100000 in
set_option maxHeartbeats 4000000 in
theorem MSE_ifs : Rows.fnMarshalStringEscapesRow.ifaces = (Tryz.f12.params.toList ++ (OpenSpec.ofChange Rows.fnMarshalStringEscapesSpec).bare.plain.varTypes Tryz.pinned.checked.prog).any (Tryz.pinned.checked.prog.ifacesRec ·) := by kernel_rfl
set_option maxRecDepth 100000 in
set_option maxHeartbeats 4000000 in
theorem MSE_mo : Rows.fnMarshalStringEscapesRow.mapsOut = Tryz.pinned.checked.prog.mapsAmong Tryz.f12.resultTypes.toList := by kernel_rfl
set_option maxRecDepth 100000 in
set_option maxHeartbeats 4000000 in
theorem MSE_lo : Rows.fnMarshalStringEscapesRow.loops = (Tryz.f12.params.toList ++ (OpenSpec.ofChange Rows.fnMarshalStringEscapesSpec).bare.plain.varTypes Tryz.pinned.checked.prog).any (Tryz.pinned.checked.prog.loopsFrom ·) := by kernel_rfl
set_option maxRecDepth 100000 in
set_option maxHeartbeats 4000000 in
theorem MSE_wk : Rows.fnMarshalStringEscapesRow.wideKeys = (Tryz.f12.params.toList ++ (OpenSpec.ofChange Rows.fnMarshalStringEscapesSpec).bare.plain.varTypes Tryz.pinned.checked.prog ++ Tryz.f12.resultTypes.toList).any (Tryz.pinned.checked.prog.wideKeysFrom ·) := by kernel_rfl
set_option maxRecDepth 100000 in
set_option maxHeartbeats 4000000 in
theorem MSE_vr : ((OpenSpec.ofChange Rows.fnMarshalStringEscapesSpec).vars.all fun n => Tryz.pinned.checked.prog.varReadable n) = true := by kernel_rfl
set_option maxRecDepth 100000 in
set_option maxHeartbeats 4000000 in
theorem MSE_si : (Tryz.f12.params.toList.all fun t => !Tryz.pinned.checked.prog.wantsStandIn t) = true := by kernel_rfl
set_option maxRecDepth 100000 in
set_option maxHeartbeats 4000000 in
theorem MSE_goes : false = Rows.fnMarshalStringEscapesRow.goesBy Tryz.pinned.checked.prog := by kernel_rfl
set_option maxRecDepth 100000 in
set_option maxHeartbeats 4000000 in
theorem MSE_m4 : (Tryz.f12.resultTypes.toList.all fun t => Tryz.pinned.checked.prog.readableRec t && decide (t < Tryz.pinned.checked.prog.types.size)) = true := by kernel_rfl
set_option maxRecDepth 100000 in
set_option maxHeartbeats 4000000 in
theorem MSE_m6 : Rows.fnMarshalStringEscapesRow.ifacesOut = Tryz.f12.resultTypes.toList.any (Tryz.pinned.checked.prog.ifacesRec ·) := by kernel_rfl
set_option maxRecDepth 100000 in
set_option maxHeartbeats 4000000 in
theorem MSE_m7 : Rows.fnMarshalStringEscapesRow.loopsOut = Tryz.f12.resultTypes.toList.any (Tryz.pinned.checked.prog.loopsFrom ·) := by kernel_rfl
set_option maxRecDepth 100000 in
set_option maxHeartbeats 4000000 in
theorem MSE_m8 : Rows.fnMarshalStringEscapesRow.kinds = (if Rows.fnMarshalStringEscapesRow.domain.isEmpty then [] else Tryz.f12.params.toList.map fun t => match Tryz.pinned.checked.prog.underlying t with | some (.int k) => some k | _ => none) := by kernel_rfl
set_option maxRecDepth 100000 in
set_option maxHeartbeats 4000000 in
theorem MSE_m9 : Rows.fnMarshalStringEscapesRow.pinned = Rows.fnMarshalStringEscapesRow.pinnedBy := by kernel_rfl
set_option maxRecDepth 100000 in
set_option maxHeartbeats 4000000 in
theorem MSE_m10 : Rows.fnMarshalStringEscapesRow.plainKeys = Tryz.pinned.checked.prog.plainKeys := by kernel_rfl
set_option maxRecDepth 100000 in
set_option maxHeartbeats 4000000 in
theorem MSE_m11 : Rows.fnMarshalStringEscapesRow.lifted = Tryz.pinned.checked.prog.liftsFinal := by kernel_rfl
set_option maxRecDepth 100000 in
set_option maxHeartbeats 4000000 in
theorem MSE_m12 : Tryz.pinned.checked.prog.make = some Rows.fnMarshalStringEscapesRow.make := by kernel_rfl
set_option maxRecDepth 100000 in
set_option maxHeartbeats 4000000 in
theorem MSE_v1 : Rows.fnMarshalStringEscapesRow.veiled = (Tryz.f12.params.toList ++ (OpenSpec.ofChange Rows.fnMarshalStringEscapesSpec).bare.plain.varTypes Tryz.pinned.checked.prog ++ Tryz.f12.resultTypes.toList).any (Tryz.pinned.checked.prog.veiledRec ·) := by kernel_rfl
set_option maxRecDepth 100000 in
set_option maxHeartbeats 4000000 in
theorem MSE_v2 : Rows.fnMarshalStringEscapesRow.veiledFits Tryz.pinned.checked.prog Tryz.f12.params.toList (Tryz.f12.params.toList ++ (OpenSpec.ofChange Rows.fnMarshalStringEscapesSpec).bare.plain.varTypes Tryz.pinned.checked.prog ++ Tryz.f12.resultTypes.toList) = true := by kernel_rfl
set_option maxRecDepth 100000 in
set_option maxHeartbeats 4000000 in
theorem MSE_ok (os : Os) : Input.okWideB Tryz.prog ((World.laidAll Tryz.prog os seatLaid0).forCall (fun _ _ => 0) ⟨#[], #[.string ByteArray.empty], []⟩) 12 ⟨#[], #[.string ByteArray.empty], []⟩ = true := by kernel_rfl
set_option maxRecDepth 100000 in
set_option maxHeartbeats 4000000 in
theorem MSE_pre (os : Os) (H : Type) (enc : TypeId × Value → H) : (OpenSpec.ofChange Rows.fnMarshalStringEscapesSpec).bare.preB enc Tryz.prog Tryz.f12 [] false ((World.laidAll Tryz.prog os seatLaid0).forCall (fun _ _ => 0) ⟨#[], #[.string ByteArray.empty], []⟩).memory #[.string ByteArray.empty] 8 = true := by kernel_rfl
set_option maxRecDepth 100000 in
set_option maxHeartbeats 4000000 in
theorem MSE_sz (os : Os) (H : Type) (enc : TypeId × Value → H) : (OpenSpec.ofChange Rows.fnMarshalStringEscapesSpec).bare.sizedB enc Tryz.prog Tryz.f12 false ((World.laidAll Tryz.prog os seatLaid0).forCall (fun _ _ => 0) ⟨#[], #[.string ByteArray.empty], []⟩).memory #[.string ByteArray.empty] 8 = true := by kernel_rfl
end Go.Proofs.YtfmjeacjfnlhiaaGreatFmt
