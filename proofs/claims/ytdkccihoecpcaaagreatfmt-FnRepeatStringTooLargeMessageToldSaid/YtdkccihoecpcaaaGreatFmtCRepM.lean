/- Closed facts of the row of FnRepeatStringTooLargeMessage, and of the start at which it is shown to speak of something. Conditions: none. -/
import Derived.Test.YtdkccihoecpcaaaGreatFmtWit
import Derived.SevenTiedAt
import Derived.Test.YtdkccihoecpcaaaGreatFmtCards
namespace Go.Proofs.YtdkccihoecpcaaaGreatFmt
open Go
set_option maxRecDepth 100000 in
set_option maxHeartbeats 4000000 in
theorem RepM_wf : Rows.fnRepeatStringTooLargeMessageRow.wfByText (OpenSpec.ofChange Rows.fnRepeatStringTooLargeMessageSpec) = true := by kernel_rfl
set_option maxRecDepth 100000 in
set_option maxHeartbeats 4000000 in
theorem RepM_tie : namedTie Tryz.pinned.checked.prog Rows.fnRepeatStringTooLargeMessageRow.namedList (OpenSpec.ofChange Rows.fnRepeatStringTooLargeMessageSpec).vars = true := by kernel_rfl
set_option maxRecDepth 100000 in
set_option maxHeartbeats 4000000 in
theorem RepM_named : Tryz.pinned.checked.prog.funcNamed Rows.fnRepeatStringTooLargeMessageRow.func = some 4 := by kernel_rfl
set_option maxRecDepth 100000 in
set_option maxHeartbeats 4000000 in
theorem RepM_read : (Tryz.f4.params.toList.all fun t => Tryz.pinned.checked.prog.readableRec t) = true := by kernel_rfl
set_option maxRecDepth 100000 in
set_option maxHeartbeats 4000000 in
theorem RepM_inp : Rows.fnRepeatStringTooLargeMessageRow.inPlace = Tryz.pinned.checked.prog.inPlace 4 := by kernel_rfl
set_option maxRecDepth 100000 in
set_option maxHeartbeats 4000000 in
theorem RepM_unf : Rows.fnRepeatStringTooLargeMessageRow.unfollowed = Tryz.pinned.checked.prog.unfollowed 4 := by kernel_rfl
set_option maxRecDepth 100000 in
set_option maxHeartbeats 4000000 in
theorem RepM_rec : Rows.fnRepeatStringTooLargeMessageRow.recurses = Tryz.pinned.checked.prog.recurses 4 := by kernel_rfl
set_option maxRecDepth 100000 in
set_option maxHeartbeats 4000000 in
theorem RepM_vars : Rows.fnRepeatStringTooLargeMessageRow.named = Tryz.pinned.checked.prog.varsNamed 4 := by kernel_rfl
set_option maxRecDepth 100000 in
set_option maxHeartbeats 4000000 in
theorem RepM_maps : Rows.fnRepeatStringTooLargeMessageRow.maps = (Tryz.f4.params.toList ++ (OpenSpec.ofChange Rows.fnRepeatStringTooLargeMessageSpec).bare.plain.varTypes Tryz.pinned.checked.prog).any (Tryz.pinned.checked.prog.mapsRec ·) := by kernel_rfl
set_option maxRecDepth 100000 in
set_option maxHeartbeats 4000000 in
theorem RepM_ifs : Rows.fnRepeatStringTooLargeMessageRow.ifaces = (Tryz.f4.params.toList ++ (OpenSpec.ofChange Rows.fnRepeatStringTooLargeMessageSpec).bare.plain.varTypes Tryz.pinned.checked.prog).any (Tryz.pinned.checked.prog.ifacesRec ·) := by kernel_rfl
set_option maxRecDepth 100000 in
set_option maxHeartbeats 4000000 in
theorem RepM_mo : Rows.fnRepeatStringTooLargeMessageRow.mapsOut = Tryz.pinned.checked.prog.mapsAmong Tryz.f4.resultTypes.toList := by kernel_rfl
set_option maxRecDepth 100000 in
set_option maxHeartbeats 4000000 in
theorem RepM_lo : Rows.fnRepeatStringTooLargeMessageRow.loops = (Tryz.f4.params.toList ++ (OpenSpec.ofChange Rows.fnRepeatStringTooLargeMessageSpec).bare.plain.varTypes Tryz.pinned.checked.prog).any (Tryz.pinned.checked.prog.loopsFrom ·) := by kernel_rfl
set_option maxRecDepth 100000 in
set_option maxHeartbeats 4000000 in
theorem RepM_wk : Rows.fnRepeatStringTooLargeMessageRow.wideKeys = (Tryz.f4.params.toList ++ (OpenSpec.ofChange Rows.fnRepeatStringTooLargeMessageSpec).bare.plain.varTypes Tryz.pinned.checked.prog ++ Tryz.f4.resultTypes.toList).any (Tryz.pinned.checked.prog.wideKeysFrom ·) := by kernel_rfl
set_option maxRecDepth 100000 in
set_option maxHeartbeats 4000000 in
theorem RepM_vr : ((OpenSpec.ofChange Rows.fnRepeatStringTooLargeMessageSpec).vars.all fun n => Tryz.pinned.checked.prog.varReadable n) = true := by kernel_rfl
set_option maxRecDepth 100000 in
set_option maxHeartbeats 4000000 in
theorem RepM_si : (Tryz.f4.params.toList.all fun t => !Tryz.pinned.checked.prog.wantsStandIn t) = true := by kernel_rfl
set_option maxRecDepth 100000 in
set_option maxHeartbeats 4000000 in
theorem RepM_goes : false = Rows.fnRepeatStringTooLargeMessageRow.goesBy Tryz.pinned.checked.prog := by kernel_rfl
set_option maxRecDepth 100000 in
set_option maxHeartbeats 4000000 in
theorem RepM_m4 : (Tryz.f4.resultTypes.toList.all fun t => Tryz.pinned.checked.prog.readableRec t && decide (t < Tryz.pinned.checked.prog.types.size)) = true := by kernel_rfl
set_option maxRecDepth 100000 in
set_option maxHeartbeats 4000000 in
theorem RepM_m6 : Rows.fnRepeatStringTooLargeMessageRow.ifacesOut = Tryz.f4.resultTypes.toList.any (Tryz.pinned.checked.prog.ifacesRec ·) := by kernel_rfl
set_option maxRecDepth 100000 in
set_option maxHeartbeats 4000000 in
theorem RepM_m7 : Rows.fnRepeatStringTooLargeMessageRow.loopsOut = Tryz.f4.resultTypes.toList.any (Tryz.pinned.checked.prog.loopsFrom ·) := by kernel_rfl
set_option maxRecDepth 100000 in
set_option maxHeartbeats 4000000 in
theorem RepM_m8 : Rows.fnRepeatStringTooLargeMessageRow.kinds = (if Rows.fnRepeatStringTooLargeMessageRow.domain.isEmpty then [] else Tryz.f4.params.toList.map fun t => match Tryz.pinned.checked.prog.underlying t with | some (.int k) => some k | _ => none) := by kernel_rfl
set_option maxRecDepth 100000 in
set_option maxHeartbeats 4000000 in
theorem RepM_m9 : Rows.fnRepeatStringTooLargeMessageRow.pinned = Rows.fnRepeatStringTooLargeMessageRow.pinnedBy := by kernel_rfl
set_option maxRecDepth 100000 in
set_option maxHeartbeats 4000000 in
theorem RepM_m10 : Rows.fnRepeatStringTooLargeMessageRow.plainKeys = Tryz.pinned.checked.prog.plainKeys := by kernel_rfl
set_option maxRecDepth 100000 in
set_option maxHeartbeats 4000000 in
theorem RepM_m11 : Rows.fnRepeatStringTooLargeMessageRow.lifted = Tryz.pinned.checked.prog.liftsFinal := by kernel_rfl
set_option maxRecDepth 100000 in
set_option maxHeartbeats 4000000 in
theorem RepM_m12 : Tryz.pinned.checked.prog.make = some Rows.fnRepeatStringTooLargeMessageRow.make := by kernel_rfl
set_option maxRecDepth 100000 in
set_option maxHeartbeats 4000000 in
theorem RepM_v1 : Rows.fnRepeatStringTooLargeMessageRow.veiled = (Tryz.f4.params.toList ++ (OpenSpec.ofChange Rows.fnRepeatStringTooLargeMessageSpec).bare.plain.varTypes Tryz.pinned.checked.prog ++ Tryz.f4.resultTypes.toList).any (Tryz.pinned.checked.prog.veiledRec ·) := by kernel_rfl
set_option maxRecDepth 100000 in
set_option maxHeartbeats 4000000 in
theorem RepM_v2 : Rows.fnRepeatStringTooLargeMessageRow.veiledFits Tryz.pinned.checked.prog Tryz.f4.params.toList (Tryz.f4.params.toList ++ (OpenSpec.ofChange Rows.fnRepeatStringTooLargeMessageSpec).bare.plain.varTypes Tryz.pinned.checked.prog ++ Tryz.f4.resultTypes.toList) = true := by kernel_rfl
set_option maxRecDepth 100000 in
set_option maxHeartbeats 4000000 in
theorem RepM_ok (os : Os) : Input.okWideB Tryz.prog ((World.laidAll Tryz.prog os seatLaid0).forCall (fun _ _ => 0) ⟨#[], #[.string ByteArray.empty, .float .f64 0], []⟩) 4 ⟨#[], #[.string ByteArray.empty, .float .f64 0], []⟩ = true := by kernel_rfl
set_option maxRecDepth 100000 in
set_option maxHeartbeats 4000000 in
theorem RepM_pre (os : Os) (H : Type) (enc : TypeId × Value → H) : (OpenSpec.ofChange Rows.fnRepeatStringTooLargeMessageSpec).bare.preB enc Tryz.prog Tryz.f4 [] false ((World.laidAll Tryz.prog os seatLaid0).forCall (fun _ _ => 0) ⟨#[], #[.string ByteArray.empty, .float .f64 0], []⟩).memory #[.string ByteArray.empty, .float .f64 0] 8 = true := by kernel_rfl
set_option maxRecDepth 100000 in
set_option maxHeartbeats 4000000 in
theorem RepM_sz (os : Os) (H : Type) (enc : TypeId × Value → H) : (OpenSpec.ofChange Rows.fnRepeatStringTooLargeMessageSpec).bare.sizedB enc Tryz.prog Tryz.f4 false ((World.laidAll Tryz.prog os seatLaid0).forCall (fun _ _ => 0) ⟨#[], #[.string ByteArray.empty, .float .f64 0], []⟩).memory #[.string ByteArray.empty, .float .f64 0] 8 = true := by kernel_rfl
end Go.Proofs.YtdkccihoecpcaaaGreatFmt
