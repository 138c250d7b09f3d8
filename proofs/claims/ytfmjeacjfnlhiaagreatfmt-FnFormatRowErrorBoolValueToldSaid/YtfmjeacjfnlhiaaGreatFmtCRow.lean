/- Closed facts of the row of FnFormatRowErrorBoolValue, and of the start at which it is shown to speak of something. Conditions: none. -/
import Derived.Test.YtfmjeacjfnlhiaaGreatFmtWit
import Derived.SevenTiedAt
import Derived.Test.YtfmjeacjfnlhiaaGreatFmtCards
namespace Go.Proofs.YtfmjeacjfnlhiaaGreatFmt
open Go
set_option maxRecDepth 100000 in
set_option maxHeartbeats 4000000 in
theorem Row_wf : Rows.fnFormatRowErrorBoolValueRow.wfByText (OpenSpec.ofChange Rows.fnFormatRowErrorBoolValueSpec) = true := by kernel_rfl
set_option maxRecDepth 100000 in
set_option maxHeartbeats 4000000 in
theorem Row_tie : namedTie Tryz.pinned.checked.prog Rows.fnFormatRowErrorBoolValueRow.namedList (OpenSpec.ofChange Rows.fnFormatRowErrorBoolValueSpec).vars = true := by kernel_rfl
set_option maxRecDepth 100000 in
set_option maxHeartbeats 4000000 in
theorem Row_named : Tryz.pinned.checked.prog.funcNamed Rows.fnFormatRowErrorBoolValueRow.func = some 8 := by kernel_rfl
set_option maxRecDepth 100000 in
set_option maxHeartbeats 4000000 in
theorem Row_read : (Tryz.f8.params.toList.all fun t => Tryz.pinned.checked.prog.readableRec t) = true := by kernel_rfl
set_option maxRecDepth 100000 in
set_option maxHeartbeats 4000000 in
theorem Row_inp : Rows.fnFormatRowErrorBoolValueRow.inPlace = Tryz.pinned.checked.prog.inPlace 8 := by kernel_rfl
set_option maxRecDepth 100000 in
set_option maxHeartbeats 4000000 in
theorem Row_unf : Rows.fnFormatRowErrorBoolValueRow.unfollowed = Tryz.pinned.checked.prog.unfollowed 8 := by kernel_rfl
set_option maxRecDepth 100000 in
set_option maxHeartbeats 4000000 in
theorem Row_rec : Rows.fnFormatRowErrorBoolValueRow.recurses = Tryz.pinned.checked.prog.recurses 8 := by kernel_rfl
set_option maxRecDepth 100000 in
set_option maxHeartbeats 4000000 in
theorem Row_vars : Rows.fnFormatRowErrorBoolValueRow.named = Tryz.pinned.checked.prog.varsNamed 8 := by kernel_rfl
set_option maxRecDepth 100000 in
set_option maxHeartbeats 4000000 in
theorem Row_maps : Rows.fnFormatRowErrorBoolValueRow.maps = (Tryz.f8.params.toList ++ (OpenSpec.ofChange Rows.fnFormatRowErrorBoolValueSpec).bare.plain.varTypes Tryz.pinned.checked.prog).any (Tryz.pinned.checked.prog.mapsRec ·) := by kernel_rfl
set_option maxRecDepth 100000 in
set_option maxHeartbeats 4000000 in
theorem Row_ifs : Rows.fnFormatRowErrorBoolValueRow.ifaces = (Tryz.f8.params.toList ++ (OpenSpec.ofChange Rows.fnFormatRowErrorBoolValueSpec).bare.plain.varTypes Tryz.pinned.checked.prog).any (Tryz.pinned.checked.prog.ifacesRec ·) := by kernel_rfl
set_option maxRecDepth 100000 in
set_option maxHeartbeats 4000000 in
theorem Row_mo : Rows.fnFormatRowErrorBoolValueRow.mapsOut = Tryz.pinned.checked.prog.mapsAmong Tryz.f8.resultTypes.toList := by kernel_rfl
set_option maxRecDepth 100000 in
set_option maxHeartbeats 4000000 in
theorem Row_lo : Rows.fnFormatRowErrorBoolValueRow.loops = (Tryz.f8.params.toList ++ (OpenSpec.ofChange Rows.fnFormatRowErrorBoolValueSpec).bare.plain.varTypes Tryz.pinned.checked.prog).any (Tryz.pinned.checked.prog.loopsFrom ·) := by kernel_rfl
set_option maxRecDepth 100000 in
set_option maxHeartbeats 4000000 in
theorem Row_wk : Rows.fnFormatRowErrorBoolValueRow.wideKeys = (Tryz.f8.params.toList ++ (OpenSpec.ofChange Rows.fnFormatRowErrorBoolValueSpec).bare.plain.varTypes Tryz.pinned.checked.prog ++ Tryz.f8.resultTypes.toList).any (Tryz.pinned.checked.prog.wideKeysFrom ·) := by kernel_rfl
set_option maxRecDepth 100000 in
set_option maxHeartbeats 4000000 in
theorem Row_vr : ((OpenSpec.ofChange Rows.fnFormatRowErrorBoolValueSpec).vars.all fun n => Tryz.pinned.checked.prog.varReadable n) = true := by kernel_rfl
set_option maxRecDepth 100000 in
set_option maxHeartbeats 4000000 in
theorem Row_si : (Tryz.f8.params.toList.all fun t => !Tryz.pinned.checked.prog.wantsStandIn t) = true := by kernel_rfl
set_option maxRecDepth 100000 in
set_option maxHeartbeats 4000000 in
theorem Row_goes : false = Rows.fnFormatRowErrorBoolValueRow.goesBy Tryz.pinned.checked.prog := by kernel_rfl
set_option maxRecDepth 100000 in
set_option maxHeartbeats 4000000 in
theorem Row_m4 : (Tryz.f8.resultTypes.toList.all fun t => Tryz.pinned.checked.prog.readableRec t && decide (t < Tryz.pinned.checked.prog.types.size)) = true := by kernel_rfl
set_option maxRecDepth 100000 in
set_option maxHeartbeats 4000000 in
theorem Row_m6 : Rows.fnFormatRowErrorBoolValueRow.ifacesOut = Tryz.f8.resultTypes.toList.any (Tryz.pinned.checked.prog.ifacesRec ·) := by kernel_rfl
set_option maxRecDepth 100000 in
set_option maxHeartbeats 4000000 in
theorem Row_m7 : Rows.fnFormatRowErrorBoolValueRow.loopsOut = Tryz.f8.resultTypes.toList.any (Tryz.pinned.checked.prog.loopsFrom ·) := by kernel_rfl
set_option maxRecDepth 100000 in
set_option maxHeartbeats 4000000 in
theorem Row_m8 : Rows.fnFormatRowErrorBoolValueRow.kinds = (if Rows.fnFormatRowErrorBoolValueRow.domain.isEmpty then [] else Tryz.f8.params.toList.map fun t => match Tryz.pinned.checked.prog.underlying t with | some (.int k) => some k | _ => none) := by kernel_rfl
set_option maxRecDepth 100000 in
set_option maxHeartbeats 4000000 in
theorem Row_m9 : Rows.fnFormatRowErrorBoolValueRow.pinned = Rows.fnFormatRowErrorBoolValueRow.pinnedBy := by kernel_rfl
set_option maxRecDepth 100000 in
set_option maxHeartbeats 4000000 in
theorem Row_m10 : Rows.fnFormatRowErrorBoolValueRow.plainKeys = Tryz.pinned.checked.prog.plainKeys := by kernel_rfl
set_option maxRecDepth 100000 in
set_option maxHeartbeats 4000000 in
theorem Row_m11 : Rows.fnFormatRowErrorBoolValueRow.lifted = Tryz.pinned.checked.prog.liftsFinal := by kernel_rfl
set_option maxRecDepth 100000 in
set_option maxHeartbeats 4000000 in
theorem Row_m12 : Tryz.pinned.checked.prog.make = some Rows.fnFormatRowErrorBoolValueRow.make := by kernel_rfl
set_option maxRecDepth 100000 in
set_option maxHeartbeats 4000000 in
theorem Row_v1 : Rows.fnFormatRowErrorBoolValueRow.veiled = (Tryz.f8.params.toList ++ (OpenSpec.ofChange Rows.fnFormatRowErrorBoolValueSpec).bare.plain.varTypes Tryz.pinned.checked.prog ++ Tryz.f8.resultTypes.toList).any (Tryz.pinned.checked.prog.veiledRec ·) := by kernel_rfl
set_option maxRecDepth 100000 in
set_option maxHeartbeats 4000000 in
theorem Row_v2 : Rows.fnFormatRowErrorBoolValueRow.veiledFits Tryz.pinned.checked.prog Tryz.f8.params.toList (Tryz.f8.params.toList ++ (OpenSpec.ofChange Rows.fnFormatRowErrorBoolValueSpec).bare.plain.varTypes Tryz.pinned.checked.prog ++ Tryz.f8.resultTypes.toList) = true := by kernel_rfl
set_option maxRecDepth 100000 in
set_option maxHeartbeats 4000000 in
theorem Row_ok (os : Os) : Input.okWideB Tryz.prog ((World.laidAll Tryz.prog os seatLaid0).forCall (fun _ _ => 0) ⟨#[], #[.string ByteArray.empty, .bool false], []⟩) 8 ⟨#[], #[.string ByteArray.empty, .bool false], []⟩ = true := by kernel_rfl
set_option maxRecDepth 100000 in
set_option maxHeartbeats 4000000 in
theorem Row_pre (os : Os) (H : Type) (enc : TypeId × Value → H) : (OpenSpec.ofChange Rows.fnFormatRowErrorBoolValueSpec).bare.preB enc Tryz.prog Tryz.f8 [] false ((World.laidAll Tryz.prog os seatLaid0).forCall (fun _ _ => 0) ⟨#[], #[.string ByteArray.empty, .bool false], []⟩).memory #[.string ByteArray.empty, .bool false] 8 = true := by kernel_rfl
set_option maxRecDepth 100000 in
set_option maxHeartbeats 4000000 in
theorem Row_sz (os : Os) (H : Type) (enc : TypeId × Value → H) : (OpenSpec.ofChange Rows.fnFormatRowErrorBoolValueSpec).bare.sizedB enc Tryz.prog Tryz.f8 false ((World.laidAll Tryz.prog os seatLaid0).forCall (fun _ _ => 0) ⟨#[], #[.string ByteArray.empty, .bool false], []⟩).memory #[.string ByteArray.empty, .bool false] 8 = true := by kernel_rfl
end Go.Proofs.YtfmjeacjfnlhiaaGreatFmt
